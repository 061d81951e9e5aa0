/- a part of the proof: FnCronListNext: for every six words, kind of field, part and instant the law function returns true and leaves its arguments as they were. No condition is added: the statement is the given one, the tied card. -/
import Derived.Test.YtjmgebhjkbcpcaaGreatDoorNG
import Derived.Deep.RegionWith
import Derived.Deep.DeepCutAuto
import Derived.Deep.MidRow
import Derived.Laws.Rows
import Derived.Deep.WholeRow
import Derived.Test.YtjmgebhjkbcpcaaGreatDoorNE
import Derived.Lib.OthersKept
import Derived.Laws.OwnMore
import Derived.Deep.AppendSrc
import Derived.Lib.SlBytesRow
import Derived.Deep.LoopGhost
import Derived.Lib.BufferRead
import Derived.Shelf.Strings.FieldsFuncAny
import Derived.OpenShut
section
set_option linter.unusedVariables false
set_option linter.unusedSimpArgs false
namespace Go.Proofs.YtjmgebhjkbcpcaaGreatDoor.NM
open Go.RowKit Cal
def offO : Option Zone → Int → Int
  | none, _ => 0
  | some z, s => z.off s
/-- what the clocks show, in seconds from 1970 on them, at an instant of x seconds from year 1 -/
def lo (z : Option Zone) (x : Int) : Int := x - 62135596800 + offO z (x - 62135596800)
def TLoc (w : World) (L : Option Addr) : Option Zone → Prop
  | none => L = none
  | some z => z.Good ∧ ∃ b g1 g2 k1 k2, L = some ⟨b, 0, none⟩ ∧ ZoneAt w b z g1 g2 k1 k2
theorem TLoc.below {w W : World} {L : Option Addr} {z : Option Zone} (h : TLoc w L z) (hb : Below w.heap.size w W) : TLoc W L z := by
  cases z with
  | none => exact h
  | some z => obtain ⟨hz, b, g1, g2, k1, k2, hL, hw⟩ := h; exact ⟨hz, b, g1, g2, k1, k2, hL, hw.below hb⟩
theorem offFrom_bd (os : List Int) (s : Int) (hos : ∀ i, i < os.length → -86400 ≤ os.getD i 0 ∧ os.getD i 0 ≤ 86400) : ∀ (ws ks : List Int) (acc : Int), -86400 ≤ acc → acc ≤ 86400 → -86400 ≤ offFrom os s ws ks acc ∧ offFrom os s ws ks acc ≤ 86400 := by
  intro ws
  induction ws with
  | nil => intro ks acc h0 h1; cases ks <;> exact ⟨h0, h1⟩
  | cons w ws ih =>
    intro ks acc h0 h1
    cases ks with
    | nil => exact ⟨h0, h1⟩
    | cons k ks =>
      rw [offFrom_cons]
      have : -86400 ≤ (if w ≤ s then os.getD k.toNat 0 else acc) ∧ (if w ≤ s then os.getD k.toNat 0 else acc) ≤ 86400 := by
        split
        · by_cases hk : k.toNat < os.length
          · exact hos _ hk
          · rw [List.getD_eq_getElem?_getD, List.getElem?_eq_none (by omega)]; simp
        · exact ⟨h0, h1⟩
      exact ih ks _ this.1 this.2
theorem Zone.off_bd {z : Zone} (h : z.Good) (s : Int) : -86400 ≤ z.off s ∧ z.off s ≤ 86400 := by
  have h0 := h.idx 0 h.n0
  have h1 := h.offs (z.ix.getD 0 0).toNat (by omega)
  exact offFrom_bd _ _ h.offs _ _ _ h1.1 h1.2
theorem TLoc.off_bd {w : World} {L : Option Addr} {z : Option Zone} (h : TLoc w L z) (s : Int) : -86400 ≤ offO z s ∧ offO z s ≤ 86400 := by
  cases z with
  | none => simp [offO]
  | some z => exact Zone.off_bd h.1 _
theorem TLoc.lo_bd {w : World} {L : Option Addr} {z : Option Zone} (h : TLoc w L z) (x : Int) (h0 : -20000000 ≤ x) (h1 : x ≤ 4000000000000) : -62155683200 ≤ lo z x ∧ lo z x ≤ 4000000000000 := by
  have := h.off_bd (x - 62135596800); unfold lo; omega
theorem abs_any (n x : Int) (L : Option Addr) (z : Option Zone) (w : World) (hL : TLoc w L z) (hn : Nan n) (h0 : -20000000 ≤ x) (h1 : x ≤ 4000000000000) :
    Calls Tryz.prog 189 #[.agg #[.int .u64 n, .int .i64 x, .pointer L]] w fun e w' => e = .returned (.int .u64 (lo z x + 9223372028741760000)) ∧ Below w.heap.size w w' := by
  have hb := hL.off_bd (x - 62135596800)
  cases z with
  | none =>
    obtain rfl : L = none := hL
    refine (absUTC n x hn h0 h1 w).mono ?_
    rintro e w' ⟨rfl, h⟩
    exact ⟨ret_int (by simp [lo, offO]), h⟩
  | some z =>
    obtain ⟨hz, b, g1, g2, k1, k2, rfl, hw⟩ := hL
    refine (absZone b g1 g2 k1 k2 z n x _ w hz hw hn h0 h1 rfl hb.1 hb.2).mono ?_
    rintro e w' ⟨rfl, h⟩
    exact ⟨ret_int (by simp [lo, offO]), h⟩
theorem janFeb_g (D : Int) (w : World) : Calls Tryz.prog 194 #[.int .i64 (gyd D)] w fun e w' => e = .returned (.int .i64 (gjf D)) ∧ w = w' :=
  janFeb_any (gyd D) (gyd_bd D).1 (gyd_bd D).2 w
theorem month_g (D : Int) (w : World) : Calls Tryz.prog 196 #[.int .i64 (gm0 D), .int .i64 (gjf D)] w fun e w' => e = .returned (.int .i64 (gmonth D)) ∧ w = w' := by
  have hy := gyd_bd D
  have hj : 0 ≤ gjf D ∧ gjf D ≤ 1 := by unfold gjf; split <;> omega
  have hm : 0 ≤ gm0 D ∧ gm0 D ≤ 100 := by unfold gm0; omega
  exact month_any _ _ w hm.1 hm.2 hj.1 hj.2
theorem ysplit_g (D : Int) (w : World) : Calls Tryz.prog 192 #[.int .i64 (gyd D)] w fun e w' => e = .returned (.tuple #[.int .i64 (gm0 D), .int .i64 (gday D)]) ∧ w = w' :=
  ysplit_any (gyd D) (gyd_bd D).1 (gyd_bd D).2 w
theorem year_g (D : Int) (w : World) (d0 : -1000000 ≤ D) (d1 : D ≤ 100000000) : Calls Tryz.prog 195 #[.int .u64 (gc D + 2922770224), .int .i64 (gcy D), .int .i64 (gjf D)] w fun e w' => e = .returned (.int .i64 (gyear D)) ∧ w = w' := by
  have hcy := gcy_bd D
  have hc := gc_bd D d0 d1
  have hj : 0 ≤ gjf D ∧ gjf D ≤ 1 := by unfold gjf; split <;> omega
  exact cyear_any (gc D) (gcy D) (gjf D) w hc.1 hc.2 hcy.1 hcy.2 hj.1 hj.2
theorem days_g (l : Int) (h0 : -62155683200 ≤ l) (h1 : l ≤ 4000000000000) (w : World) :
    Calls Tryz.prog 190 #[.int .u64 (l + 9223372028741760000)] w fun e w' => e = .returned (.int .u64 (l / 86400 + 106751991073400)) ∧ w = w' := by
  refine (days_any (l + 9223372028741760000) (by omega) (by omega) w).mono ?_
  rintro e w' ⟨rfl, rfl⟩
  exact ⟨ret_int (by omega), rfl⟩
theorem date_g (D : Int) (w : World) (d0 : -1000000 ≤ D) (d1 : D ≤ 100000000) : Calls Tryz.prog 207 #[.int .u64 (D + 106751991073400)] w fun e w' => e = .returned (.tuple #[.int .i64 (gyear D), .int .i64 (gmonth D), .int .i64 (gday D)]) ∧ w = w' := by
  go_enter Tryz.func207, Tryz.ntmps207
  go_wp2_with (first
    | (go_at_call 191; refine (split_any _ d0 d1 _).mono ?_; rintro e w' ⟨rfl, rfl⟩)
    | (go_at_call 192; refine (ysplit_g _ _).mono ?_; rintro e w' ⟨rfl, rfl⟩)
    | (go_at_call 194; refine (janFeb_g _ _).mono ?_; rintro e w' ⟨rfl, rfl⟩)
    | (go_at_call 195; refine (year_g _ _ d0 d1).mono ?_; rintro e w' ⟨rfl, rfl⟩)
    | (go_at_call 196; refine (month_g _ _).mono ?_; rintro e w' ⟨rfl, rfl⟩))
  go_ret3
  exact ⟨rfl, rfl⟩
section
variable (n x : Int) (L : Option Addr) (z : Option Zone) (w : World) (hL : TLoc w L z) (hn : Nan n) (h0 : -20000000 ≤ x) (h1 : x ≤ 4000000000000)
include hL hn h0 h1
theorem tHour : Calls Tryz.prog 185 #[.agg #[.int .u64 n, .int .i64 x, .pointer L]] w fun e w' => e = .returned (.int .i64 (lo z x % 86400 / 3600)) ∧ Below w.heap.size w w' := by
  obtain ⟨b0, b1⟩ := hL.lo_bd x h0 h1
  go_enter Tryz.func185, Tryz.ntmps185
  go_wp2_with (go_at_call 189; refine (abs_any n x L z _ (hL.below (bA (Below.refl _ _) _)) hn h0 h1).mono ?_; rintro e w' ⟨rfl, hb⟩)
  go_ret
  exact ⟨ret_int (by omega), (bA (Below.refl _ _) _).trans (hb.mono (by simp))⟩
theorem tMinute : Calls Tryz.prog 186 #[.agg #[.int .u64 n, .int .i64 x, .pointer L]] w fun e w' => e = .returned (.int .i64 (lo z x % 3600 / 60)) ∧ Below w.heap.size w w' := by
  obtain ⟨b0, b1⟩ := hL.lo_bd x h0 h1
  go_enter Tryz.func186, Tryz.ntmps186
  go_wp2_with (go_at_call 189; refine (abs_any n x L z _ (hL.below (bA (Below.refl _ _) _)) hn h0 h1).mono ?_; rintro e w' ⟨rfl, hb⟩)
  go_ret
  exact ⟨ret_int (by omega), (bA (Below.refl _ _) _).trans (hb.mono (by simp))⟩
theorem tSecond : Calls Tryz.prog 188 #[.agg #[.int .u64 n, .int .i64 x, .pointer L]] w fun e w' => e = .returned (.int .i64 (lo z x % 60)) ∧ Below w.heap.size w w' := by
  obtain ⟨b0, b1⟩ := hL.lo_bd x h0 h1
  go_enter Tryz.func188, Tryz.ntmps188
  go_wp2_with (go_at_call 189; refine (abs_any n x L z _ (hL.below (bA (Below.refl _ _) _)) hn h0 h1).mono ?_; rintro e w' ⟨rfl, hb⟩)
  go_ret
  exact ⟨ret_int (by omega), (bA (Below.refl _ _) _).trans (hb.mono (by simp))⟩
theorem tYear : Calls Tryz.prog 180 #[.agg #[.int .u64 n, .int .i64 x, .pointer L]] w fun e w' => e = .returned (.int .i64 (gyear (lo z x / 86400))) ∧ Below w.heap.size w w' := by
  obtain ⟨b0, b1⟩ := hL.lo_bd x h0 h1
  have d0 : -1000000 ≤ lo z x / 86400 := by omega
  have d1 : lo z x / 86400 ≤ 100000000 := by omega
  go_enter Tryz.func180, Tryz.ntmps180
  go_wp2_with (first
    | (go_at_call 189; refine (abs_any n x L z _ (hL.below (bA (Below.refl _ _) _)) hn h0 h1).mono ?_; rintro e w' ⟨rfl, hb⟩)
    | (go_at_call 190; refine (days_g _ b0 b1 _).mono ?_; rintro e w' ⟨rfl, rfl⟩)
    | (go_at_call 191; refine (split_any _ d0 d1 _).mono ?_; rintro e w' ⟨rfl, rfl⟩)
    | (go_at_call 194; refine (janFeb_g _ _).mono ?_; rintro e w' ⟨rfl, rfl⟩)
    | (go_at_call 195; refine (year_g _ _ d0 d1).mono ?_; rintro e w' ⟨rfl, rfl⟩))
  go_ret
  exact ⟨rfl, (bA (Below.refl _ _) _).trans (hb.mono (by simp))⟩
theorem tMonth : Calls Tryz.prog 181 #[.agg #[.int .u64 n, .int .i64 x, .pointer L]] w fun e w' => e = .returned (.int .i64 (gmonth (lo z x / 86400))) ∧ Below w.heap.size w w' := by
  obtain ⟨b0, b1⟩ := hL.lo_bd x h0 h1
  have d0 : -1000000 ≤ lo z x / 86400 := by omega
  have d1 : lo z x / 86400 ≤ 100000000 := by omega
  go_enter Tryz.func181, Tryz.ntmps181
  go_wp2_with (first
    | (go_at_call 189; refine (abs_any n x L z _ (hL.below (bA (Below.refl _ _) _)) hn h0 h1).mono ?_; rintro e w' ⟨rfl, hb⟩)
    | (go_at_call 190; refine (days_g _ b0 b1 _).mono ?_; rintro e w' ⟨rfl, rfl⟩)
    | (go_at_call 191; refine (split_any _ d0 d1 _).mono ?_; rintro e w' ⟨rfl, rfl⟩)
    | (go_at_call 192; refine (ysplit_g _ _).mono ?_; rintro e w' ⟨rfl, rfl⟩)
    | (go_at_call 194; refine (janFeb_g _ _).mono ?_; rintro e w' ⟨rfl, rfl⟩)
    | (go_at_call 196; refine (month_g _ _).mono ?_; rintro e w' ⟨rfl, rfl⟩))
  go_ret
  exact ⟨rfl, (bA (Below.refl _ _) _).trans (hb.mono (by simp))⟩
theorem tDay : Calls Tryz.prog 176 #[.agg #[.int .u64 n, .int .i64 x, .pointer L]] w fun e w' => e = .returned (.int .i64 (gday (lo z x / 86400))) ∧ Below w.heap.size w w' := by
  obtain ⟨b0, b1⟩ := hL.lo_bd x h0 h1
  have d0 : -1000000 ≤ lo z x / 86400 := by omega
  have d1 : lo z x / 86400 ≤ 100000000 := by omega
  go_enter Tryz.func176, Tryz.ntmps176
  go_wp2_with (first
    | (go_at_call 189; refine (abs_any n x L z _ (hL.below (bA (Below.refl _ _) _)) hn h0 h1).mono ?_; rintro e w' ⟨rfl, hb⟩)
    | (go_at_call 190; refine (days_g _ b0 b1 _).mono ?_; rintro e w' ⟨rfl, rfl⟩)
    | (go_at_call 191; refine (split_any _ d0 d1 _).mono ?_; rintro e w' ⟨rfl, rfl⟩)
    | (go_at_call 192; refine (ysplit_g _ _).mono ?_; rintro e w' ⟨rfl, rfl⟩))
  go_ret
  exact ⟨rfl, (bA (Below.refl _ _) _).trans (hb.mono (by simp))⟩
theorem tWeekday : Calls Tryz.prog 202 #[.agg #[.int .u64 n, .int .i64 x, .pointer L]] w fun e w' => e = .returned (.int .i64 ((lo z x / 86400 + 4) % 7)) ∧ Below w.heap.size w w' := by
  obtain ⟨b0, b1⟩ := hL.lo_bd x h0 h1
  have d0 : -1000000 ≤ lo z x / 86400 := by omega
  have d1 : lo z x / 86400 ≤ 100000000 := by omega
  go_enter Tryz.func202, Tryz.ntmps202
  go_wp2_with (first
    | (go_at_call 189; refine (abs_any n x L z _ (hL.below (bA (Below.refl _ _) _)) hn h0 h1).mono ?_; rintro e w' ⟨rfl, hb⟩)
    | (go_at_call 190; refine (days_g _ b0 b1 _).mono ?_; rintro e w' ⟨rfl, rfl⟩)
    | (go_at_call 209; refine (weekday_any _ _ d0 d1).mono ?_; rintro e w' ⟨rfl, rfl⟩))
  go_ret
  exact ⟨rfl, (bA (Below.refl _ _) _).trans (hb.mono (by simp))⟩
theorem tDate : Calls Tryz.prog 200 #[.agg #[.int .u64 n, .int .i64 x, .pointer L]] w fun e w' => e = .returned (.tuple #[.int .i64 (gyear (lo z x / 86400)), .int .i64 (gmonth (lo z x / 86400)), .int .i64 (gday (lo z x / 86400))]) ∧ Below w.heap.size w w' := by
  obtain ⟨b0, b1⟩ := hL.lo_bd x h0 h1
  have d0 : -1000000 ≤ lo z x / 86400 := by omega
  have d1 : lo z x / 86400 ≤ 100000000 := by omega
  go_enter Tryz.func200, Tryz.ntmps200
  go_wp2_with (first
    | (go_at_call 189; refine (abs_any n x L z _ (hL.below (bA (Below.refl _ _) _)) hn h0 h1).mono ?_; rintro e w' ⟨rfl, hb⟩)
    | (go_at_call 190; refine (days_g _ b0 b1 _).mono ?_; rintro e w' ⟨rfl, rfl⟩)
    | (go_at_call 207; refine (date_g _ _ d0 d1).mono ?_; rintro e w' ⟨rfl, rfl⟩))
  go_ret3
  exact ⟨rfl, (bA (Below.refl _ _) _).trans (hb.mono (by simp))⟩
theorem tClock : Calls Tryz.prog 201 #[.agg #[.int .u64 n, .int .i64 x, .pointer L]] w fun e w' => e = .returned (.tuple #[.int .i64 (lo z x % 86400 / 3600), .int .i64 (lo z x % 3600 / 60), .int .i64 (lo z x % 60)]) ∧ Below w.heap.size w w' := by
  obtain ⟨b0, b1⟩ := hL.lo_bd x h0 h1
  go_enter Tryz.func201, Tryz.ntmps201
  go_wp2_with (first
    | (go_at_call 189; refine (abs_any n x L z _ (hL.below (bA (Below.refl _ _) _)) hn h0 h1).mono ?_; rintro e w' ⟨rfl, hb⟩)
    | (go_at_call 208; refine (clock_any _ (by omega) (by omega) _).mono ?_; rintro e w' ⟨rfl, rfl⟩))
  go_ret3
  exact ⟨ret_tuple3 (int_eq (by omega)) (int_eq (by omega)) (int_eq (by omega)), (bA (Below.refl _ _) _).trans (hb.mono (by simp))⟩
end
end Go.Proofs.YtjmgebhjkbcpcaaGreatDoor.NM
end
section
set_option linter.unusedVariables false
set_option linter.unusedSimpArgs false
namespace Go.Proofs.YtjmgebhjkbcpcaaGreatDoor.NM
open Go.RowKit Cal
/-- what a *Location points to -/
def LocP (w : World) (b : Nat) : Option Zone → Prop
  | none => w.cell? ⟨b, 0, none⟩ = some (.bool true) ∧ w.cell? ⟨b, 2, none⟩ = some (.slice none 0 0)
  | some z => z.Good ∧ ∃ g1 g2 k1 k2, ZoneAt w b z g1 g2 k1 k2
theorem LocP.below {w W : World} {b : Nat} {z : Option Zone} (h : LocP w b z) (hb : Below w.heap.size w W) : LocP W b z := by
  cases z with
  | none => exact ⟨keep hb h.1, keep hb h.2⟩
  | some z => obtain ⟨hz, g1, g2, k1, k2, hw⟩ := h; exact ⟨hz, g1, g2, k1, k2, hw.below hb⟩
def canon (b : Nat) : Option Zone → Option Addr
  | none => none
  | some _ => some ⟨b, 0, none⟩
theorem LocP.tl {w : World} {b : Nat} {z : Option Zone} (h : LocP w b z) : TLoc w (canon b z) z := by
  cases z with
  | none => rfl
  | some z => obtain ⟨hz, g1, g2, k1, k2, hw⟩ := h; exact ⟨hz, b, g1, g2, k1, k2, rfl, hw⟩
theorem tIn (n x : Int) (L : Option Addr) (b : Nat) (z : Option Zone) (w : World) (hL : LocP w b z) (hn : Nan n) :
    Calls Tryz.prog 67 #[.agg #[.int .u64 n, .int .i64 x, .pointer L], .pointer (some ⟨b, 0, none⟩)] w fun e w' => e = .returned (.agg #[.int .u64 n, .int .i64 x, .pointer (canon b z)]) ∧ Below w.heap.size w w' := by
  have hA := bits_big n hn.1 (by have := hn.2; omega)
  clear hn
  cases z with
  | none =>
    have h0 : w.cell? ⟨b, 0, none⟩ = some (.bool true) := hL.1
    have hlt : b < w.heap.size := World.block_lt_of_cell? w _ h0
    go_enter Tryz.func67, Tryz.ntmps67
    go_wp2
    go_end0
    go_wp2
    go_end0
    go_wp2
    exact bodyPost_ret (v := .agg #[.int .u64 n, .int .i64 x, .pointer none]) (by simp [results, Tryz.results67, go_sem]) rfl ⟨rfl, bA (bA (Below.refl _ _) _) _⟩
  | some z =>
    obtain ⟨hz, g1, g2, k1, k2, hw⟩ := hL
    have h0 : w.cell? ⟨b, 0, none⟩ = some (.bool false) := hw.c0
    have hlt : b < w.heap.size := World.block_lt_of_cell? w _ h0
    clear hw
    go_enter Tryz.func67, Tryz.ntmps67
    go_wp2
    go_end0
    go_wp2
    go_end0
    go_wp2
    exact bodyPost_ret (v := .agg #[.int .u64 n, .int .i64 x, .pointer (some ⟨b, 0, none⟩)]) (by simp [results, Tryz.results67, go_sem]) rfl ⟨rfl, bA (bA (Below.refl _ _) _) _⟩
theorem tLoc (n x : Int) (L : Option Addr) (z : Option Zone) (w : World) (hL : TLoc w L z) :
    Calls Tryz.prog 178 #[.agg #[.int .u64 n, .int .i64 x, .pointer L]] w fun e w' => ∃ b, e = .returned (.pointer (some ⟨b, 0, none⟩)) ∧ LocP w' b z ∧ canon b z = L ∧ Below w.heap.size w w' := by
  cases z with
  | none =>
    obtain rfl : L = none := hL
    go_enter Tryz.func178, Tryz.ntmps178
    go_wp2
    go_ret
    exact ⟨w.heap.size + 1, rfl, ⟨by simp [go_sem], by simp [go_sem]⟩, rfl, bA (bA (Below.refl _ _) _) _⟩
  | some z =>
    obtain ⟨hz, b, g1, g2, k1, k2, rfl, hw⟩ := hL
    go_enter Tryz.func178, Tryz.ntmps178
    go_wp2
    go_ret
    exact ⟨b, rfl, ⟨hz, g1, g2, k1, k2, hw.below (bA (Below.refl _ _) _)⟩, rfl, bA (Below.refl _ _) _⟩
theorem tAdd0 (x d k : Int) (L : Option Addr) (w : World) (h0 : -20000000 ≤ x) (h1 : x ≤ 2000000000000) (hd0 : 0 ≤ d) (hd1 : d < 9223372036854775808) (hk : d / 1000000000 = k) (hm : d % 1000000000 = 0) :
    Calls Tryz.prog 179 #[.agg #[.int .u64 0, .int .i64 x, .pointer L], .int .i64 d] w fun e w' => e = .returned (.agg #[.int .u64 0, .int .i64 (x + k), .pointer L]) ∧ Below w.heap.size w w' := by
  have hk0 : 0 ≤ k := by omega
  have hk1 : k < 9223372037 := by omega
  have hA0 := bits_big 0 (by decide) (by decide)
  have hB0 := bits_low 0 (by decide) (by decide)
  have hC0 := bits_clr 0 (by decide) (by decide)
  have hD0 := bits_or0 0 (by decide) (by decide)
  by_cases hz : k = 0
  · have hq : decide (0 < k) = false := by simp; omega
    have hq2 : decide (x < x + k) = false := by simp; omega
    clear hz
    go_enter Tryz.func179, Tryz.ntmps179
    go_wp2
    go_end0
    go_wp2
    exact bodyPost_ret (v := .agg #[.int .u64 0, .int .i64 (x + k), .pointer L]) (by simp [results, Tryz.results179, go_sem, hk]) rfl ⟨rfl, bA (bA (Below.refl _ _) _) _⟩
  · have hq : decide (0 < k) = true := by simp; omega
    have hq2 : decide (x < x + k) = true := by simp; omega
    clear hz
    go_enter Tryz.func179, Tryz.ntmps179
    go_wp2
    go_end0
    go_wp2
    exact bodyPost_ret (v := .agg #[.int .u64 0, .int .i64 (x + k), .pointer L]) (by simp [results, Tryz.results179, go_sem, hk]) rfl ⟨rfl, bA (bA (Below.refl _ _) _) _⟩
theorem tAddN (n x d k : Int) (L : Option Addr) (w : World) (hn0 : 0 < n) (hn1 : n < 1000000000) (h0 : 0 ≤ x) (h1 : x ≤ 2000000000000) (hd0 : 0 ≤ d) (hd1 : d < 9223372036854775808) (hk : d / 1000000000 + 1 = k) (hm : d % 1000000000 = 1000000000 - n) :
    Calls Tryz.prog 179 #[.agg #[.int .u64 n, .int .i64 x, .pointer L], .int .i64 d] w fun e w' => e = .returned (.agg #[.int .u64 0, .int .i64 (x + k), .pointer L]) ∧ Below w.heap.size w w' := by
  have hk0 : 1 ≤ k := by omega
  have hk1 : k < 9223372038 := by omega
  have hA := bits_big n (by omega) (by omega)
  have hB := bits_low n (by omega) (by omega)
  have hC := bits_clr n (by omega) (by omega)
  have hA0 := bits_big 0 (by decide) (by decide)
  have hD0 := bits_or0 0 (by decide) (by decide)
  have e0 : n + (1000000000 - n) - 1000000000 = 0 := by omega
  have hq : decide (0 < k) = true := by simp; omega
  have hq2 : decide (x < x + k) = true := by simp; omega
  go_enter Tryz.func179, Tryz.ntmps179
  go_wp2
  go_end0
  go_wp2
  exact bodyPost_ret (v := .agg #[.int .u64 0, .int .i64 (x + k), .pointer L]) (by simp [results, Tryz.results179, go_sem]) rfl ⟨rfl, bA (bA (Below.refl _ _) _) _⟩
theorem tAddNeg0 (x d m : Int) (L : Option Addr) (w : World) (h0 : 0 ≤ x) (h1 : x ≤ 2000000000000) (hm0 : m < 0) (hm1 : -61 ≤ m) (e1 : d.tdiv 1000000000 = m) (e2 : d.tmod 1000000000 = 0) (hd0 : d < 0) (hd1 : -100000000000 ≤ d) :
    Calls Tryz.prog 179 #[.agg #[.int .u64 0, .int .i64 x, .pointer L], .int .i64 d] w fun e w' => e = .returned (.agg #[.int .u64 0, .int .i64 (x + m), .pointer L]) ∧ Below w.heap.size w w' := by
  have hA0 := bits_big 0 (by decide) (by decide)
  have hB0 := bits_low 0 (by decide) (by decide)
  have hC0 := bits_clr 0 (by decide) (by decide)
  have hD0 := bits_or0 0 (by decide) (by decide)
  have hq2 : decide (x < x + m) = false := by simp; omega
  have hq3 : decide (0 < m) = false := by simp; omega
  go_enter Tryz.func179, Tryz.ntmps179
  go_wp2
  go_end0
  go_wp2
  exact bodyPost_ret (v := .agg #[.int .u64 0, .int .i64 (x + m), .pointer L]) (by simp [results, Tryz.results179, go_sem]) rfl ⟨rfl, bA (bA (Below.refl _ _) _) _⟩
theorem tAddNeg (x k : Int) (L : Option Addr) (w : World) (h0 : 0 ≤ x) (h1 : x ≤ 2000000000000) (hd0 : 0 ≤ k) (hd1 : k ≤ 60) (hx : k ≤ x) :
    Calls Tryz.prog 179 #[.agg #[.int .u64 0, .int .i64 x, .pointer L], .int .i64 (-(k * 1000000000))] w fun e w' => e = .returned (.agg #[.int .u64 0, .int .i64 (x - k), .pointer L]) ∧ Below w.heap.size w w' := by
  by_cases hz : k = 0
  · subst hz
    refine (tAdd0 x 0 0 L w (by omega) h1 (by decide) (by decide) (by decide) (by decide)).mono ?_
    rintro e w' ⟨rfl, hb⟩
    exact ⟨by rw [show x - 0 = x + 0 by omega], hb⟩
  · have e1 : (-(k * 1000000000)).tdiv 1000000000 = -k := by rw [Int.neg_tdiv, Int.mul_tdiv_cancel _ (by decide)]
    have e2 : (-(k * 1000000000)).tmod 1000000000 = 0 := by rw [Int.neg_tmod, Int.mul_tmod_left]; rfl
    refine (tAddNeg0 x _ (-k) L w h0 h1 (by omega) (by omega) e1 e2 (by omega) (by omega)).mono ?_
    rintro e w' ⟨rfl, hb⟩
    exact ⟨by rw [show x - k = x + -k by omega], hb⟩
end Go.Proofs.YtjmgebhjkbcpcaaGreatDoor.NM
end
section
set_option linter.unusedVariables false
set_option linter.unusedSimpArgs false
namespace Go.Proofs.YtjmgebhjkbcpcaaGreatDoor.NM
open Go.RowKit Cal
theorem div60 (x : Int) (L : Option Addr) (w : World) (h0 : 0 ≤ x) (h1 : x ≤ 2000000000000) :
    Calls Tryz.prog 203 #[.agg #[.int .u64 0, .int .i64 x, .pointer L], .int .i64 60000000000] w fun e w' => ∃ q, e = .returned (.tuple #[q, .int .i64 (x % 60 * 1000000000)]) ∧ Below w.heap.size w w' := by
  have hA0 := bits_big 0 (by decide) (by decide)
  have hB0 := bits_low 0 (by decide) (by decide)
  have hq : decide (x < 0) = false := by simp; omega
  go_enter Tryz.func203, Tryz.ntmps203
  go_wp2
  go_ret2
  exact ⟨_, ret_tuple2 rfl rfl, bA (Below.refl _ _) _⟩
theorem div1 (x : Int) (L : Option Addr) (w : World) (h0 : 0 ≤ x) (h1 : x ≤ 2000000000000) :
    Calls Tryz.prog 203 #[.agg #[.int .u64 0, .int .i64 x, .pointer L], .int .i64 1000000000] w fun e w' => ∃ q, e = .returned (.tuple #[q, .int .i64 0]) ∧ Below w.heap.size w w' := by
  have hA0 := bits_big 0 (by decide) (by decide)
  have hB0 := bits_low 0 (by decide) (by decide)
  have hq : decide (x < 0) = false := by simp; omega
  go_enter Tryz.func203, Tryz.ntmps203
  go_wp2
  go_ret2
  exact ⟨_, ret_tuple2 rfl rfl, bA (Below.refl _ _) _⟩
theorem norm_id (a b c : Int) (w : World) (h0 : 0 ≤ b) (h1 : b < c) (hc : c ≤ 1000000000) :
    Calls Tryz.prog 197 #[.int .i64 a, .int .i64 b, .int .i64 c] w fun e w' => e = .returned (.tuple #[.int .i64 a, .int .i64 b]) ∧ w = w' := by
  go_enter Tryz.func197, Tryz.ntmps197
  go_wp2
  go_ret2
  exact ⟨rfl, rfl⟩
theorem norm_12 (a : Int) (w : World) (h0 : -1000000 ≤ a) (h1 : a < 1000000000) :
    Calls Tryz.prog 197 #[.int .i64 a, .int .i64 12, .int .i64 12] w fun e w' => e = .returned (.tuple #[.int .i64 (a + 1), .int .i64 0]) ∧ w = w' := by
  go_enter Tryz.func197, Tryz.ntmps197
  go_wp2
  go_ret2
  exact ⟨rfl, rfl⟩
theorem d2a_core (Y q r : Int) (h : Y = 100 * q + r) (h0 : 0 ≤ r) (h1 : r < 100) :
    146097 * (q + 2922770224) / 4 + 1461 * r / 4 = ystart (Y + 1) + 719162 + 106751990353932 := by
  obtain ⟨a, b, hq, hb0, hb1⟩ : ∃ a b : Int, q = 4 * a + b ∧ 0 ≤ b ∧ b ≤ 3 := ⟨q / 4, q % 4, by omega, by omega, by omega⟩
  obtain ⟨c, d, hr, hd0, hd1⟩ : ∃ c d : Int, r = 4 * c + d ∧ 0 ≤ d ∧ d ≤ 3 := ⟨r / 4, r % 4, by omega, by omega, by omega⟩
  have e1 : 146097 * (q + 2922770224) / 4 = 36524 * q + a + 106751990353932 := by
    have : b = 0 ∨ b = 1 ∨ b = 2 ∨ b = 3 := by omega
    rcases this with rfl | rfl | rfl | rfl <;> omega
  have e2 : 1461 * r / 4 = 365 * r + c := by
    have : d = 0 ∨ d = 1 ∨ d = 2 ∨ d = 3 := by omega
    rcases this with rfl | rfl | rfl | rfl <;> omega
  have e3 : Y / 4 = 25 * q + c := by omega
  have e4 : Y / 100 = q := by omega
  have e5 : Y / 400 = a := by omega
  have e6 : (Y + 1 - 1) = Y := by omega
  unfold ystart
  rw [e1, e2, e6, e3, e4, e5]
  omega
theorem wrap_y (y : Int) (hy0 : -2001 ≤ y) (hy1 : y ≤ 200000) : IntKind.u64.wrap (IntKind.u64.wrap (IntKind.u64.wrap y) + 292277022400) = y + 292277022400 := by
  simp [IntKind.wrap, IntKind.bits, IntKind.signed]; omega
theorem wrap_y1 (y : Int) (hy0 : -2000 ≤ y) (hy1 : y ≤ 200000) : IntKind.u64.wrap (IntKind.u64.wrap (IntKind.u64.wrap y - 1) + 292277022400) = y - 1 + 292277022400 := by
  simp [IntKind.wrap, IntKind.bits, IntKind.signed]; omega
theorem d2a_fin (Y e d : Int) (hy0 : -2001 ≤ Y) (hy1 : Y ≤ 200000) (he0 : 0 ≤ e) (he1 : e ≤ 400) (hd0 : 1 ≤ d) (hd1 : d ≤ 32) :
    IntKind.u64.wrap (IntKind.u64.wrap ((IntKind.u64.wrap (146097 * IntKind.u64.wrap ((Y + 292277022400).tdiv 100))).tdiv 4) +
      ((1461 * ((Y + 292277022400).tmod 100 % 4294967296) % 4294967296 / 4 + e) + d - 1)) = ystart (Y + 1) - 306 + e + d - 1 + 106751991073400 := by
  have hp : 0 ≤ Y + 292277022400 := by omega
  rw [Int.tdiv_eq_ediv_of_nonneg hp, Int.tmod_eq_emod_of_nonneg hp]
  have e1 : (Y + 292277022400) / 100 = Y / 100 + 2922770224 := by omega
  have e2 : (Y + 292277022400) % 100 = Y % 100 := by omega
  rw [e1, e2, u64wrap_small (Y / 100 + 2922770224) (by omega) (by omega)]
  have hc := d2a_core Y (Y / 100) (Y % 100) (by omega) (by omega) (by omega)
  have e3 : Y % 100 % 4294967296 = Y % 100 := by omega
  have e4 : 1461 * (Y % 100) % 4294967296 = 1461 * (Y % 100) := by omega
  rw [e3, e4, u64wrap_small (146097 * (Y / 100 + 2922770224)) (by omega) (by omega), Int.tdiv_eq_ediv_of_nonneg (by omega),
    u64wrap_small (146097 * (Y / 100 + 2922770224) / 4) (by omega) (by omega), u64wrap_small _ (by omega) (by omega)]
  omega
theorem cum_lo (y m : Int) (h0 : 1 ≤ m) (h1 : m < 3) : ystart (y - 1 + 1) - 306 + (979 * (m + 12) - 2919) / 32 = ystart y + cum y m := by
  have e : y - 1 + 1 = y := by omega
  have : m = 1 ∨ m = 2 := by omega
  rw [e]
  rcases this with rfl | rfl <;> simp [cum] <;> omega
theorem cum_hi (y m : Int) (h0 : 3 ≤ m) (h1 : m ≤ 12) : ystart (y + 1) - 306 + (979 * m - 2919) / 32 = ystart y + cum y m := by
  have hs := ystart_succ y
  have : m = 3 ∨ m = 4 ∨ m = 5 ∨ m = 6 ∨ m = 7 ∨ m = 8 ∨ m = 9 ∨ m = 10 ∨ m = 11 ∨ m = 12 := by omega
  rcases this with rfl | rfl | rfl | rfl | rfl | rfl | rfl | rfl | rfl | rfl <;> simp [cum] <;> omega
theorem d2a (y m d : Int) (w : World) (hy0 : -2000 ≤ y) (hy1 : y ≤ 200000) (hm0 : 1 ≤ m) (hm1 : m ≤ 12) (hd0 : 1 ≤ d) (hd1 : d ≤ 32) :
    Calls Tryz.prog 198 #[.int .i64 y, .int .i64 m, .int .i64 d] w fun e w' => e = .returned (.int .u64 (ystart y + cum y m + d - 1 + 106751991073400)) ∧ w = w' := by
  by_cases hm : m < 3
  · go_enter Tryz.func198, Tryz.ntmps198
    go_wp2
    go_ret
    refine ⟨ret_int ?_, rfl⟩
    have h := d2a_fin (y - 1) ((979 * (m + 12) - 2919) / 32) d (by omega) (by omega) (by omega) (by omega) hd0 hd1
    rw [wrap_y1 y hy0 hy1, h, cum_lo y m hm0 hm]
  · go_enter Tryz.func198, Tryz.ntmps198
    go_wp2
    go_ret
    refine ⟨ret_int ?_, rfl⟩
    have h := d2a_fin y ((979 * m - 2919) / 32) d (by omega) (by omega) (by omega) (by omega) hd0 hd1
    rw [wrap_y y (by omega) hy1, show ∀ a : Int, (1461 * a % 4294967296 / 4 + (979 * m - 2919) / 32) % 4294967296 = 1461 * a % 4294967296 / 4 + (979 * m - 2919) / 32 from fun a => by omega, h, cum_hi y m (by omega) hm1]
end Go.Proofs.YtjmgebhjkbcpcaaGreatDoor.NM
end
section
set_option linter.unusedVariables false
set_option linter.unusedSimpArgs false
namespace Go.Proofs.YtjmgebhjkbcpcaaGreatDoor.NM
open Go.RowKit Cal
/-- the instant (seconds from 1970) that Date takes for T seconds on the clocks -/
def reso (z : Option Zone) (T : Int) : Int := T - offO z (T - offO z T)
theorem cum_bd (y m : Int) (h0 : 1 ≤ m) (h1 : m ≤ 13) : 0 ≤ cum y m ∧ cum y m ≤ 366 := by
  have a := cum_le y 1 m h0
  have b := cum_le y m 13 h1
  have c := leapI_01 y
  rw [cum_one] at a
  rw [cum_13] at b
  omega
theorem day_bd (y m d N : Int) (hy0 : -1000 ≤ y) (hy1 : y ≤ 60000) (hm0 : 1 ≤ m) (hm1 : m ≤ 12) (hd0 : 1 ≤ d) (hd1 : d ≤ 32) (hN : ystart y + cum y m + d - 1 = N) : -1100000 ≤ N ∧ N ≤ 23000000 := by
  have := cum_bd y m hm0 (by omega)
  unfold ystart at hN; omega
theorem wraps_T (N r : Int) (h0 : -1100000 ≤ N) (h1 : N ≤ 23000000) (r0 : 0 ≤ r) (r1 : r < 86400) :
    wrap64 (wrap64 (wrap64 ((N + 106751991073400) * 86400) + r) + -9223372028741760000) = N * 86400 + r := by
  unfold wrap64; omega
theorem fin_agg3 {w w1 : World} {o : Obj} (hb : Below (w.alloc o).heap.size (w.alloc o) w1) (v0 v1 v2 : Value) :
    Below w.heap.size w (((w1.setCell ⟨w.heap.size, 0, none⟩ v0).setCell ⟨w.heap.size, 1, none⟩ v1).setCell ⟨w.heap.size, 2, none⟩ v2) := by
  have h1 : Below w.heap.size w w1 := (bA (Below.refl _ _) o).trans (hb.mono (by simp))
  exact ((h1.setCell (by simp) _).setCell (by simp) _).setCell (by simp) _
section
variable (y0 m0 y m d h mi s : Int) (hq0 : 1 ≤ m0) (hq1 : m0 ≤ 13) (hno : Hid (∀ w : World, Calls Tryz.prog 197 #[.int .i64 y0, .int .i64 (m0 - 1), .int .i64 12] w fun e w' => e = .returned (.tuple #[.int .i64 y, .int .i64 (m - 1)]) ∧ w = w')) (b : Nat) (w : World) (hy0 : -1000 ≤ y) (hy1 : y ≤ 60000) (hm0 : 1 ≤ m) (hm1 : m ≤ 12) (hd0 : 1 ≤ d) (hd1 : d ≤ 32) (hh0 : 0 ≤ h) (hh1 : h < 24) (hi0 : 0 ≤ mi) (hi1 : mi < 60) (hs0 : 0 ≤ s) (hs1 : s < 60) (N T : Int)
    (hN : ystart y + cum y m + d - 1 = N) (hT : N * 86400 + (h * 3600 + mi * 60 + s) = T)
include hq0 hq1 hno hy0 hy1 hm0 hm1 hd0 hd1 hh0 hh1 hi0 hi1 hs0 hs1 hN hT
theorem dmk_utc (hL : LocP w b none) (hu0 : -62160000000 ≤ T) (hu1 : T ≤ 1900000000000) :
    Calls Tryz.prog 182 #[.int .i64 y0, .int .i64 m0, .int .i64 d, .int .i64 h, .int .i64 mi, .int .i64 s, .int .i64 0, .pointer (some ⟨b, 0, none⟩)] w fun e w' => e = .returned (.agg #[.int .u64 0, .int .i64 (reso none T + 62135596800), .pointer none]) ∧ Below w.heap.size w w' := by
  obtain ⟨c0, c2⟩ := hL
  have hlt : b < w.heap.size := World.block_lt_of_cell? w _ c0
  have hA0 := bits_big 0 (by decide) (by decide)
  have hb := day_bd y m d N hy0 hy1 hm0 hm1 hd0 hd1 hN
  have hw := wraps_T N (h * 3600 + mi * 60 + s) hb.1 hb.2 (by omega) (by omega)
  rw [hT] at hw
  have HN := Lib.hid hN
  have HW := Lib.hid hw
  clear hN hT hw
  have hc2 : ∀ o, (w.alloc o).cell? ⟨b, 2, none⟩ = some (.slice none 0 0) := fun o => keep (bA (Below.refl _ _) _) c2
  go_enter Tryz.func182, Tryz.ntmps182
  go_wp2_with (first
    | (go_at_call 197; (with_reducible refine (hno.out _).mono ?_); rintro e w' ⟨rfl, rfl⟩)
    | (go_at_call 197; refine (norm_id _ _ _ _ (by omega) (by omega) (by omega)).mono ?_; rintro e w' ⟨rfl, rfl⟩)
    | (go_at_call 198; refine (d2a _ _ _ _ (by omega) (by omega) (by omega) (by omega) (by omega) (by omega)).mono ?_; rintro e w' ⟨rfl, rfl⟩; rw [HN.out])
    | (go_at_call 199; rw [HW.out]; refine (lookup_utc b _ _ (hc2 _)).mono ?_; rintro e w' ⟨rfl, rfl⟩)
    | (go_at_call 99; refine (tUnixTime _ _ (by omega) (by omega) (by omega) (by omega) _).mono ?_; rintro e w1 ⟨rfl, hb1⟩; obtain ⟨hc, hf⟩ := bcell hb1; have hz : w.heap.size < w1.heap.size := (by have := hb1.size; simp at this; omega); have hbz : b < w1.heap.size := (by omega))
    | go_in)
  go_end0
  go_wp2
  go_end0
  go_wp2
  exact bodyPost_ret (v := .agg #[.int .u64 0, .int .i64 (T + 62135596800), .pointer none]) (by simp [results, Tryz.results182, go_sem, hc, hz]) rfl ⟨by simp [reso, offO], bA (fin_agg3 hb1 _ _ _) _⟩
set_option maxHeartbeats 400000 in
theorem dmk_zone (g1 g2 k1 k2 : Nat) (z : Zone) (hz : z.Good) (hw0 : ZoneAt w b z g1 g2 k1 k2) (hu0 : -62160000000 ≤ T) (hu1 : T ≤ 1900000000000) :
    Calls Tryz.prog 182 #[.int .i64 y0, .int .i64 m0, .int .i64 d, .int .i64 h, .int .i64 mi, .int .i64 s, .int .i64 0, .pointer (some ⟨b, 0, none⟩)] w fun e w' => e = .returned (.agg #[.int .u64 0, .int .i64 (reso (some z) T + 62135596800), .pointer (some ⟨b, 0, none⟩)]) ∧ Below w.heap.size w w' := by
  have c0 := hw0.c0
  have hlt : b < w.heap.size := World.block_lt_of_cell? w _ c0
  have hA0 := bits_big 0 (by decide) (by decide)
  have hb := day_bd y m d N hy0 hy1 hm0 hm1 hd0 hd1 hN
  have hw := wraps_T N (h * 3600 + mi * 60 + s) hb.1 hb.2 (by omega) (by omega)
  rw [hT] at hw
  have HN := Lib.hid hN
  have HW := Lib.hid hw
  have HZ := Lib.hid hz
  have HZA := Lib.hid hw0
  clear hN hT hw hz hw0
  have ho : ∀ r, -86400 ≤ z.off r ∧ z.off r ≤ 86400 := fun r => Zone.off_bd HZ.out r
  obtain ⟨o, hoo⟩ : ∃ o, z.off T = o := ⟨_, rfl⟩
  obtain ⟨o2, hoo2⟩ : ∃ o2, z.off (T - o) = o2 := ⟨_, rfl⟩
  have b1 := ho T
  have b2 := ho (T - o)
  rw [hoo] at b1
  rw [hoo2] at b2
  have hr : reso (some z) T = T - o2 := by unfold reso offO; simp only [hoo, hoo2]
  rw [hr]
  have HO := Lib.hid hoo
  have HO2 := Lib.hid hoo2
  clear ho hr hoo hoo2
  go_enter Tryz.func182, Tryz.ntmps182
  go_wp2_with (first
    | (go_at_call 197; (with_reducible refine (hno.out _).mono ?_); rintro e w' ⟨rfl, rfl⟩)
    | (go_at_call 197; refine (norm_id _ _ _ _ (by omega) (by omega) (by omega)).mono ?_; rintro e w' ⟨rfl, rfl⟩)
    | (go_at_call 198; refine (d2a _ _ _ _ (by omega) (by omega) (by omega) (by omega) (by omega) (by omega)).mono ?_; rintro e w' ⟨rfl, rfl⟩; rw [HN.out])
    | (go_at_call 199; rw [HW.out]; refine (lookup_walk b g1 g2 k1 k2 z _ T HZ.out (HZA.out.below (bA (Below.refl _ _) _)) (by omega) (by omega)).mono ?_; rintro e w' ⟨st, en, dd, rfl, hbl, l1, l2, l3⟩; rw [HO.out]; have LL := Lib.hid l3; clear l3))
  · clear LL
    refine (lookup_walk b g1 g2 k1 k2 z _ (T - o) HZ.out ((HZA.out.below (bA (Below.refl _ _) _)).below hbl) (by omega) (by omega)).mono ?_
    rintro e w2 ⟨st2, en2, dd2, rfl, hb2, -, -, -⟩
    rw [HO2.out]
    replace hbl := hbl.trans (hb2.mono hbl.size)
    clear hb2
    go_wp2_with fail
    refine (tUnixTime _ _ (by omega) (by omega) (by omega) (by omega) _).mono ?_
    rintro e w1 ⟨rfl, hb1⟩
    have hbb := hbl.trans (hb1.mono hbl.size)
    obtain ⟨hc, hf⟩ := bcell hbb
    have hz : w.heap.size < w1.heap.size := by have := hbb.size; simp at this; omega
    have hbz : b < w1.heap.size := by omega
    clear hb1 hbl
    go_wp2_with go_in
    go_end0
    go_wp2
    go_end0
    go_wp2
    exact bodyPost_ret (v := .agg #[.int .u64 0, .int .i64 (T - o2 + 62135596800), .pointer (some ⟨b, 0, none⟩)]) (by simp [results, Tryz.results182, go_sem, hc, hz]) rfl ⟨rfl, bA (fin_agg3 hbb _ _ _) _⟩
  · obtain rfl : o2 = o := by rw [← HO2.out, LL.out (T - o) (by omega) (by omega), HO.out]
    clear LL
    refine (tUnixTime _ _ (by omega) (by omega) (by omega) (by omega) _).mono ?_
    rintro e w1 ⟨rfl, hb1⟩
    have hbb := hbl.trans (hb1.mono hbl.size)
    obtain ⟨hc, hf⟩ := bcell hbb
    have hz : w.heap.size < w1.heap.size := by have := hbb.size; simp at this; omega
    have hbz : b < w1.heap.size := by omega
    clear hb1 hbl
    go_wp2_with go_in
    go_end0
    go_wp2
    go_end0
    go_wp2
    exact bodyPost_ret (v := .agg #[.int .u64 0, .int .i64 (T - o2 + 62135596800), .pointer (some ⟨b, 0, none⟩)]) (by simp [results, Tryz.results182, go_sem, hc, hz]) rfl ⟨rfl, bA (fin_agg3 hbb _ _ _) _⟩
  · clear LL
    refine (lookup_walk b g1 g2 k1 k2 z _ (T - o) HZ.out ((HZA.out.below (bA (Below.refl _ _) _)).below hbl) (by omega) (by omega)).mono ?_
    rintro e w2 ⟨st2, en2, dd2, rfl, hb2, -, -, -⟩
    rw [HO2.out]
    replace hbl := hbl.trans (hb2.mono hbl.size)
    clear hb2
    go_wp2_with fail
    refine (tUnixTime _ _ (by omega) (by omega) (by omega) (by omega) _).mono ?_
    rintro e w1 ⟨rfl, hb1⟩
    have hbb := hbl.trans (hb1.mono hbl.size)
    obtain ⟨hc, hf⟩ := bcell hbb
    have hz : w.heap.size < w1.heap.size := by have := hbb.size; simp at this; omega
    have hbz : b < w1.heap.size := by omega
    clear hb1 hbl
    go_wp2_with go_in
    go_end0
    go_wp2
    go_end0
    go_wp2
    exact bodyPost_ret (v := .agg #[.int .u64 0, .int .i64 (T - o2 + 62135596800), .pointer (some ⟨b, 0, none⟩)]) (by simp [results, Tryz.results182, go_sem, hc, hz]) rfl ⟨rfl, bA (fin_agg3 hbb _ _ _) _⟩
  · clear LL
    obtain rfl : o = 0 := by simpa using ‹(o != 0) = false›
    obtain rfl : o2 = 0 := by rw [← HO2.out, show T - 0 = T by omega, HO.out]
    refine (tUnixTime _ _ (by omega) (by omega) (by omega) (by omega) _).mono ?_
    rintro e w1 ⟨rfl, hb1⟩
    have hbb := hbl.trans (hb1.mono hbl.size)
    obtain ⟨hc, hf⟩ := bcell hbb
    have hz : w.heap.size < w1.heap.size := by have := hbb.size; simp at this; omega
    have hbz : b < w1.heap.size := by omega
    clear hb1 hbl
    go_wp2_with go_in
    go_end0
    go_wp2
    go_end0
    go_wp2
    exact bodyPost_ret (v := .agg #[.int .u64 0, .int .i64 (T + 62135596800), .pointer (some ⟨b, 0, none⟩)]) (by simp [results, Tryz.results182, go_sem, hc, hz]) rfl ⟨by rw [show T - 0 = T by omega], bA (fin_agg3 hbb _ _ _) _⟩
theorem dmk (z : Option Zone) (hL : LocP w b z) (hu0 : -62160000000 ≤ T) (hu1 : T ≤ 1900000000000) :
    Calls Tryz.prog 182 #[.int .i64 y0, .int .i64 m0, .int .i64 d, .int .i64 h, .int .i64 mi, .int .i64 s, .int .i64 0, .pointer (some ⟨b, 0, none⟩)] w fun e w' => e = .returned (.agg #[.int .u64 0, .int .i64 (reso z T + 62135596800), .pointer (canon b z)]) ∧ Below w.heap.size w w' := by
  cases z with
  | none => exact dmk_utc y0 m0 y m d h mi s hq0 hq1 hno b w hy0 hy1 hm0 hm1 hd0 hd1 hh0 hh1 hi0 hi1 hs0 hs1 N T hN hT hL (by omega) hu1
  | some z =>
    obtain ⟨hz, g1, g2, k1, k2, hw⟩ := hL
    exact dmk_zone y0 m0 y m d h mi s hq0 hq1 hno b w hy0 hy1 hm0 hm1 hd0 hd1 hh0 hh1 hi0 hi1 hs0 hs1 N T hN hT g1 g2 k1 k2 z hz hw hu0 hu1
end
end Go.Proofs.YtjmgebhjkbcpcaaGreatDoor.NM
end
section
set_option linter.unusedVariables false
set_option linter.unusedSimpArgs false
namespace Go.Proofs.YtjmgebhjkbcpcaaGreatDoor.NM
open Go.RowKit Cal
structure Sets where
  se : Int
  mi : Int
  ho : Int
  dom : Int
  mon : Int
  dow : Int
structure SpecAt (w : World) (b : Nat) (S : Sets) : Prop where
  c0 : w.cell? ⟨b, 0, none⟩ = some (.int .u64 S.se)
  c1 : w.cell? ⟨b, 1, none⟩ = some (.int .u64 S.mi)
  c2 : w.cell? ⟨b, 2, none⟩ = some (.int .u64 S.ho)
  c3 : w.cell? ⟨b, 3, none⟩ = some (.int .u64 S.dom)
  c4 : w.cell? ⟨b, 4, none⟩ = some (.int .u64 S.mon)
  c5 : w.cell? ⟨b, 5, none⟩ = some (.int .u64 S.dow)
  c6 : w.cell? ⟨b, 6, none⟩ = some (.pointer none)
theorem SpecAt.below {w W : World} {b : Nat} {S : Sets} (h : SpecAt w b S) (hb : Below w.heap.size w W) : SpecAt W b S :=
  ⟨keep hb h.c0, keep hb h.c1, keep hb h.c2, keep hb h.c3, keep hb h.c4, keep hb h.c5, keep hb h.c6⟩
theorem ret_bool {a b : Bool} (h : a = b) : Ending.returned (.bool a) = .returned (.bool b) := by rw [h]
/-- does a set have the value k? -/
def hit (v k : Int) : Bool := decide (0 < bits BinOp.and IntKind.u64 (IntKind.u64.wrap (2 ^ k.toNat)) v)
def star (v : Int) : Bool := decide (0 < bits BinOp.and IntKind.u64 v 9223372036854775808)
def dayHit (S : Sets) (D : Int) : Bool :=
  if (star S.dom || star S.dow) then (hit S.dom (gday D) && hit S.dow ((D + 4) % 7)) else (hit S.dom (gday D) || hit S.dow ((D + 4) % 7))
set_option maxHeartbeats 1000000 in
theorem tDayM (x : Int) (L : Option Addr) (z : Option Zone) (S : Sets) (b : Nat) (w : World) (hL : TLoc w L z) (hS : SpecAt w b S) (h0 : -20000000 ≤ x) (h1 : x ≤ 1500000000000) :
    Calls Tryz.prog 184 #[.pointer (some ⟨b, 0, none⟩), .agg #[.int .u64 0, .int .i64 x, .pointer L]] w fun e w' => e = .returned (.bool (dayHit S (lo z x / 86400))) ∧ Below w.heap.size w w' := by
  have hn : Nan 0 := ⟨by decide, by decide⟩
  have HS := Lib.hid hS
  have hlt := World.block_lt_of_cell? w _ hS.c3
  have HL := Lib.hid hL
  have hg := gdate (lo z x / 86400)
  have hd := mlen_bd (gyear (lo z x / 86400)) (gmonth (lo z x / 86400))
  have gd1 := hg.d1
  have gdm := hg.dm
  have ew1 : IntKind.u64.wrap (gday (lo z x / 86400)) = gday (lo z x / 86400) := u64wrap_small _ (by omega) (by omega)
  have ew2 : IntKind.u64.wrap ((lo z x / 86400 + 4) % 7) = (lo z x / 86400 + 4) % 7 := u64wrap_small _ (by omega) (by omega)
  have e1 : decide (0 < bits BinOp.and IntKind.u64 (IntKind.u64.wrap (2 ^ (gday (lo z x / 86400)).toNat)) S.dom) = hit S.dom (gday (lo z x / 86400)) := rfl
  have e2 : decide (0 < bits BinOp.and IntKind.u64 (IntKind.u64.wrap (2 ^ ((lo z x / 86400 + 4) % 7).toNat)) S.dow) = hit S.dow ((lo z x / 86400 + 4) % 7) := rfl
  have e3 : decide (0 < bits BinOp.and IntKind.u64 S.dom 9223372036854775808) = star S.dom := rfl
  have e4 : decide (0 < bits BinOp.and IntKind.u64 S.dow 9223372036854775808) = star S.dow := rfl
  have hc3 := hS.c3
  have hc5 := hS.c5
  have gdm31 : gday (lo z x / 86400) ≤ 31 := by omega
  clear hg hL hS hd gdm
  go_enter Tryz.func184, Tryz.ntmps184
  go_upto_region 1 with fail
  go_cut [5] (fun s5 wx => s5 = .bool (hit S.dom (gday (lo z x / 86400))) ∧ Below (w.alloc (Obj.cells #[Value.int IntKind.u64 0, Value.int IntKind.i64 x, Value.pointer L] 84)).heap.size (w.alloc (Obj.cells #[Value.int IntKind.u64 0, Value.int IntKind.i64 x, Value.pointer L] 84)) wx)
  case first =>
    go_region_with (go_at_call 176; refine (tDay 0 x L z _ (HL.out.below (bA (Below.refl _ _) _).drew) hn h0 (by omega)).mono ?_; rintro e w1 ⟨rfl, hb1⟩; have hd3 := keep hb1 (show (w.alloc (Obj.cells #[Value.int IntKind.u64 0, Value.int IntKind.i64 x, Value.pointer L] 84)).drew.cell? ⟨b, 3, none⟩ = some (.int .u64 S.dom) by simp [go_sem, hlt, hc3]))
    all_goals (go_wp2_with fail; go_meet; exact ⟨rfl, (Below.refl _ _).drew.trans hb1⟩)
  case rest =>
    obtain ⟨rfl, hb1⟩ := hcut
    obtain ⟨hc1, hf1⟩ := bcell hb1
    have hz1 : w.heap.size < wc.heap.size := (by have := hb1.size; simp at this; omega)
    have hw1 : wc.cell? ⟨w.heap.size, 0, none⟩ = some (.int .u64 0) := by rw [hc1 _ _ (by simp)]; simp [go_sem]
    have hw2 : wc.cell? ⟨w.heap.size, 1, none⟩ = some (.int .i64 x) := by rw [hc1 _ _ (by simp)]; simp [go_sem]
    have hw3 : wc.cell? ⟨w.heap.size, 2, none⟩ = some (.pointer L) := by rw [hc1 _ _ (by simp)]; simp [go_sem]
    have hb0 := (bA (Below.refl w.heap.size w) (Obj.cells #[Value.int IntKind.u64 0, Value.int IntKind.i64 x, Value.pointer L] 84)).trans (hb1.mono (by simp))
    have hk3 := keep hb0 hc3
    have hk5 := keep hb0 hc5
    have HB0 := Lib.hid hb0
    clear hc1 hf1 hb1 hb0 hc3 hc5
    go_upto_region 2 with fail
    go_cut [6] (fun s6 wx => s6 = .bool (hit S.dow ((lo z x / 86400 + 4) % 7)) ∧ Below wc.heap.size wc wx)
    case first =>
      go_region_with (go_at_call 202; refine (tWeekday 0 x L z _ ((HL.out.below HB0.out).below (Below.refl _ _).drew) hn h0 (by omega)).mono ?_; rintro e w1 ⟨rfl, hb1⟩; have hd5 := keep hb1 (show wc.drew.cell? ⟨b, 5, none⟩ = some (.int .u64 S.dow) from hk5))
      all_goals (go_wp2_with fail; go_meet; exact ⟨rfl, (Below.refl _ _).drew.trans hb1⟩)
    case rest =>
      obtain ⟨rfl, hb2⟩ := hcut
      have hn3 := keep hb2 hk3
      have hn5 := keep hb2 hk5
      have HB2 := Lib.hid hb2
      clear hb2 hk3 hk5 hw1 hw2 hw3
      clear e1 e2 ew1 ew2
      go_wp2
      all_goals
        go_ret
        exact ⟨ret_bool (by simp only [dayHit, *]; simp), HB0.out.trans (HB2.out.mono HB0.out.size)⟩
end Go.Proofs.YtjmgebhjkbcpcaaGreatDoor.NM
end
section
set_option linter.unusedVariables false
set_option linter.unusedSimpArgs false
namespace Go.Proofs.YtjmgebhjkbcpcaaGreatDoor.Txt
open Go.Proofs.YtjmgebhjkbcpcaaGreatDoor.NM
open Go Go.RowKit Go.Proofs.YtjmgebhjkbcpcaaGreatDoorW.PrintWords Go.Proofs.YtjmgebhjkbcpcaaGreatDoorW.PrintLast Go.Proofs.YtjmgebhjkbcpcaaGreatDoorW.PrintMore Go.Proofs.YtjmgebhjkbcpcaaGreatDoor.PCronParse
set_option maxRecDepth 100000
theorem wpList_store_row {P : Program} {ops : Array Oper} {rest : List Oper} {o : Oper} {a : Act} {w : World} {Q : Exit → Act → World → Prop} (hgd : o.guard = none) (ty : TypeId) (x y : Operand) (ho : o.op = .store ty x y)
    (g : Nat) (cells : Array Value) (hx : a.eval x = .pointer (some ⟨g, 0, none⟩)) (hy : a.eval y = .agg cells)
    (t : TypeId) (old : Array Value) (hg : w.heap[g]? = some (.cells old t (0, 0))) (hi : (P.info? ty).map (·.size) = some cells.size)
    (hold : old.size = cells.size) (h1 : cells.all (·.oneCell') = true)
    (h : wpList P ops Q rest (a.put o.dst undef) (w.setRow g cells)) : wpList P ops Q (o :: rest) a w :=
  wpList_plain hgd fun _ hK => wp_store_row ty x y ho g cells hx hy t old hg hi hold h1 (hK _ _ h)
theorem Below.setRow' {B : Nat} {a w : World} (h : Below B a w) {g : Nat} (hg : B ≤ g) (cs : Array Value) : Below B a (w.setRow g cs) :=
  ⟨h.os, h.tape, h.output, by simp; exact h.size, fun k hk => by rw [setRow_other w g k cs (by omega)]; exact h.block k hk⟩
theorem und35 : Tryz.prog.underlying 35 = some (.struct (Tryz.prog.fieldsOf 35)) := by kernel_rfl
theorem inf35 : (Tryz.prog.info? 35).map (·.size) = some 64 := by kernel_rfl
theorem und33 : Tryz.prog.underlying 33 = some (.array 63 4) := by kernel_rfl
theorem inf33 : (Tryz.prog.info? 33).map (·.size) = some 63 := by kernel_rfl
theorem und4 : Tryz.prog.underlying 4 = some .bool := by kernel_rfl
theorem idx33 (cs : Array Value) (n : Nat) (b : Bool) (hn : n < 63) (h : cs[n]? = some (.bool b)) (w : World) : (Instr.index 33 (.agg cs) (.int .i64 (n : Int))).run Tryz.prog w = .ok (.bool b) w := by
  have h0 : (0 : Int) ≤ n ∧ (n : Int) < 63 := by omega
  simp [Instr.index, run_underlying und33, asIntOf, h0, part, go_sem]
  rw [if_pos hn, h]
  rfl
/-- a set's cells -/
structure Bools (cs : Array Value) : Prop where
  sz : cs.size = 64
  bl : ∀ j, j < 64 → ∃ bb, cs[j]? = some (.bool bb)
theorem Bools.all {cs : Array Value} (h : Bools cs) : cs.all (·.oneCell') = true := by
  refine Array.all_eq_true_iff_forall_mem.2 fun v hv => ?_
  obtain ⟨i, hi, rfl⟩ := Array.mem_iff_getElem.1 hv
  obtain ⟨bb, hb⟩ := h.bl i (by have := h.sz; omega)
  rw [Array.getElem?_eq_getElem hi] at hb
  injection hb with hb
  rw [hb]; rfl
theorem Bools.set {cs : Array Value} (h : Bools cs) (i : Nat) (b : Bool) : Bools (cs.setIfInBounds i (.bool b)) where
  sz := by simp [h.sz]
  bl := fun j hj => by
    rw [Array.getElem?_setIfInBounds]
    split
    · exact ⟨b, by rw [if_pos (by rw [h.sz]; omega)]⟩
    · exact h.bl j hj
theorem Bools.zero : Bools (Array.replicate 64 (Value.bool false)) := ⟨by simp, fun j hj => ⟨false, by simp [hj]⟩⟩
set_option maxHeartbeats 1000000 in
theorem tUnion (cs ds : Array Value) (hc : Bools cs) (hd : Bools ds) (w : World) :
    Calls Tryz.prog 61 #[.agg cs, .agg ds] w fun e w' => ∃ us : Array Value, e = .returned (.agg us) ∧ Bools us ∧ Below w.heap.size w w' := by
  have HI := Lib.hid (inf35)
  have HC := Lib.hid hc
  have HD := Lib.hid hd
  clear hc hd
  obtain ⟨L, hL⟩ : ∃ L : List Value, L = ds.toList.drop 1 := ⟨_, rfl⟩
  have hLl : L.length = 63 := by rw [hL, List.length_drop, Array.length_toList, HD.out.sz]
  have hLg : ∀ n : Nat, n < 63 → L.toArray[n]? = ds[1 + n]? := fun n hn => by
    rw [List.getElem?_toArray, hL, List.getElem?_drop, Array.getElem?_toList]
  have HL := Lib.hid (And.intro hLl (And.intro hLg hL))
  clear hL hLl hLg
  go_enter Tryz.func61, Tryz.ntmps61
  have hzero := Bools.zero
  go_upto_region 1 with fail
  generalize hW : World.alloc _ _ = W
  have hb0 : W.heap[w.heap.size]? = some (.cells cs 35 (0, 0)) := by
    rw [← hW, Below.heap_alloc _ _ _ (by simp; omega), Below.heap_alloc _ _ _ (by simp)]
    exact heap_alloc_new _ _
  have hb1 : W.heap[w.heap.size + 1]? = some (.cells ds 35 (0, 0)) := by
    rw [← hW, Below.heap_alloc _ _ _ (by simp)]
    exact heap_alloc2_new _ _ _
  have hb2 : ∃ z : Array Value, z.size = 64 ∧ W.heap[w.heap.size + 2]? = some (.cells z 35 (0, 0)) := by
    rw [← hW]
    have e : w.heap.size + 2 = ((w.alloc (Obj.cells cs 35)).alloc (Obj.cells ds 35)).heap.size := by simp
    rw [e]
    exact ⟨_, rfl, heap_alloc_new _ _⟩
  have hbW : Below w.heap.size w W := by rw [← hW]; exact bA (bA (bA (Below.refl _ _) _) _) _
  clear hW
  have H0 := Lib.hid hb0
  have H1 := Lib.hid hb1
  have H2 := Lib.hid hb2
  have HW := Lib.hid hbW
  clear hb0 hb1 hb2 hbW hzero
  go_upto_region 2 with (first
    | ((with_reducible refine wpList_load_mid (op := ⟨some 8, _, _, _, _, _⟩) ?a1 33 (.tmp 7) ?a2 (w.heap.size + 1) 1 ?a3 L _ ?a4 und33 ?a5 ?a6 ?_); (case a1 => rfl); (case a2 => rfl); (case a3 => rfl); (case a4 => (intro j v hv; rw [cell_of_row _ _ _ _ _ _ H1.out]; have q : j < 63 := (by have := HL.out.1; have := (List.getElem?_eq_some_iff.1 hv).1; omega); rw [← HL.out.2.1 j q]; simpa using hv)); (case a5 => rfl); (case a6 => rw [HL.out.1]; exact inf33)))
  go_loopw [9] (fun v wr => ∃ (n : Nat) (us : Array Value), v = .int .i64 n ∧ Aside0 (n ≤ 63) ∧ Aside0 (Bools us) ∧ Aside0 (wr.heap[w.heap.size]? = some (.cells us 35 (0, 0))) ∧ Aside0 (wr.heap[w.heap.size + 1]? = some (.cells ds 35 (0, 0))) ∧ Aside0 (∃ z : Array Value, z.size = 64 ∧ wr.heap[w.heap.size + 2]? = some (.cells z 35 (0, 0))) ∧ Aside0 (Below w.heap.size w wr)) (fun v _ => 100 - (intOf v).toNat)
  case atStart => exact ⟨0, cs, rfl, ⟨by decide⟩, ⟨HC.out⟩, ⟨H0.out⟩, ⟨H1.out⟩, ⟨H2.out⟩, ⟨HW.out⟩⟩
  case round =>
    obtain ⟨n, us, rfl, HN, HU, HB0, HB1, HB2, HB⟩ := hrel
    by_cases c : (n : Int) < 63
    · have hn : n < 63 := by omega
      obtain ⟨x, hx⟩ := HU.out.bl (1 + n) (by omega)
      obtain ⟨y, hy⟩ := HD.out.bl (1 + n) (by omega)
      have hy' : L.toArray[n]? = some (.bool y) := by rw [HL.out.2.1 n hn]; exact hy
      have hidx := idx33 L.toArray n y hn hy'
      have c1 : wr.cell? ⟨w.heap.size, 1 + n, none⟩ = some (.bool x) := by rw [cell_of_row _ _ _ _ _ _ HB0.out]; exact hx
      have f1 : wr.frozen? ⟨w.heap.size, 1 + n, none⟩ = false := frozen_of_row _ _ _ _ _ HB0.out
      clear hx hy hy'
      cases x
      · go_wp2
        go_roundw
        case measure => simp [intOf]; omega
        case rel =>
          exact ⟨n + 1, _, by go_num, ⟨by omega⟩, ⟨HU.out.set (1 + n) y⟩, ⟨heap_setCell_same _ _ _ _ _ _ HB0.out⟩, ⟨by rw [heap_setCell_other _ _ _ _ (by simp)]; exact HB1.out⟩, ⟨by rw [heap_setCell_other _ _ _ _ (by simp)]; exact HB2.out⟩, ⟨HB.out.setCell (by simp) _⟩⟩
      · go_wp2
        go_roundw
        case measure => simp [intOf]; omega
        case rel =>
          exact ⟨n + 1, _, by go_num, ⟨by omega⟩, ⟨HU.out.set (1 + n) true⟩, ⟨heap_setCell_same _ _ _ _ _ _ HB0.out⟩, ⟨by rw [heap_setCell_other _ _ _ _ (by simp)]; exact HB1.out⟩, ⟨by rw [heap_setCell_other _ _ _ _ (by simp)]; exact HB2.out⟩, ⟨HB.out.setCell (by simp) _⟩⟩
    · obtain ⟨x, hx⟩ := HU.out.bl 0 (by omega)
      obtain ⟨y, hy⟩ := HD.out.bl 0 (by omega)
      have c1 : wr.cell? ⟨w.heap.size, 0, none⟩ = some (.bool x) := by rw [cell_of_row _ _ _ _ _ _ HB0.out]; exact hx
      have f1 : wr.frozen? ⟨w.heap.size, 0, none⟩ = false := frozen_of_row _ _ _ _ _ HB0.out
      have c2 : wr.cell? ⟨w.heap.size + 1, 0, none⟩ = some (.bool y) := by rw [cell_of_row _ _ _ _ _ _ HB1.out]; exact hy
      clear hx hy
      cases x
      · go_wp2_with (first
        | ((with_reducible refine wpList_load_row (o := ⟨some 31, _, _, _, _, _⟩) ?a1 35 (.tmp 2) ?a2 w.heap.size ?a3 35 (us.setIfInBounds 0 (.bool y)) (0, 0) _ ?a4 und35 ?a5 ?a6 ?_); (case a1 => rfl); (case a2 => rfl); (case a3 => rfl); (case a5 => rfl); (case a6 => rw [(HU.out.set 0 y).sz]; exact HI.out); (case a4 => exact heap_setCell_same _ _ _ _ _ _ HB0.out))
        | ((with_reducible refine wpList_store_row (o := ⟨none, .store 35 (.tmp 4) (.tmp 31), _, _, _, _⟩) ?b1 35 (.tmp 4) (.tmp 31) ?b2 (w.heap.size + 2) (us.setIfInBounds 0 (.bool y)) ?b3 ?b4 35 HB2.out.choose ?b5 ?b6 ?b7 ?b8 ?_); (case b1 => rfl); (case b2 => rfl); (case b3 => rfl); (case b4 => rfl); (case b5 => rw [heap_setCell_other _ _ _ _ (by simp)]; exact HB2.out.choose_spec.2); (case b6 => rw [(HU.out.set 0 y).sz]; exact HI.out); (case b7 => rw [(HU.out.set 0 y).sz]; exact HB2.out.choose_spec.1); (case b8 => exact (HU.out.set 0 y).all)))
        refine bodyPost_ret (v := .agg (us.setIfInBounds 0 (.bool y))) (results_cell_row rfl _ _ (w.heap.size + 2) 35 _ (0, 0) _ rfl (setRow_heap _ _ HB2.out.choose _ 35 (0, 0) ?_) und35 rfl ?_) rfl ⟨_, rfl, HU.out.set 0 y, ?_⟩
        · rw [heap_setCell_other _ _ _ _ (by simp)]; exact HB2.out.choose_spec.2
        · rw [(HU.out.set 0 y).sz]; exact HI.out
        · exact Below.setRow' (HB.out.setCell (by simp) _) (by omega) _
      · go_wp2_with (first
        | ((with_reducible refine wpList_load_row (o := ⟨some 31, _, _, _, _, _⟩) ?a1 35 (.tmp 2) ?a2 w.heap.size ?a3 35 (us.setIfInBounds 0 (.bool true)) (0, 0) _ ?a4 und35 ?a5 ?a6 ?_); (case a1 => rfl); (case a2 => rfl); (case a3 => rfl); (case a5 => rfl); (case a6 => rw [(HU.out.set 0 true).sz]; exact HI.out); (case a4 => exact heap_setCell_same _ _ _ _ _ _ HB0.out))
        | ((with_reducible refine wpList_store_row (o := ⟨none, .store 35 (.tmp 4) (.tmp 31), _, _, _, _⟩) ?b1 35 (.tmp 4) (.tmp 31) ?b2 (w.heap.size + 2) (us.setIfInBounds 0 (.bool true)) ?b3 ?b4 35 HB2.out.choose ?b5 ?b6 ?b7 ?b8 ?_); (case b1 => rfl); (case b2 => rfl); (case b3 => rfl); (case b4 => rfl); (case b5 => rw [heap_setCell_other _ _ _ _ (by simp)]; exact HB2.out.choose_spec.2); (case b6 => rw [(HU.out.set 0 true).sz]; exact HI.out); (case b7 => rw [(HU.out.set 0 true).sz]; exact HB2.out.choose_spec.1); (case b8 => exact (HU.out.set 0 true).all)))
        refine bodyPost_ret (v := .agg (us.setIfInBounds 0 (.bool true))) (results_cell_row rfl _ _ (w.heap.size + 2) 35 _ (0, 0) _ rfl (setRow_heap _ _ HB2.out.choose _ 35 (0, 0) ?_) und35 rfl ?_) rfl ⟨_, rfl, HU.out.set 0 true, ?_⟩
        · rw [heap_setCell_other _ _ _ _ (by simp)]; exact HB2.out.choose_spec.2
        · rw [(HU.out.set 0 true).sz]; exact HI.out
        · exact Below.setRow' (HB.out.setCell (by simp) _) (by omega) _
end Go.Proofs.YtjmgebhjkbcpcaaGreatDoor.Txt
end
section
set_option linter.unusedVariables false
set_option linter.unusedSimpArgs false
namespace Go.Proofs.YtjmgebhjkbcpcaaGreatDoor.Txt
open Go.Proofs.YtjmgebhjkbcpcaaGreatDoor.NM
open Go Go.RowKit Go.Proofs.YtjmgebhjkbcpcaaGreatDoorW.PrintWords Go.Proofs.YtjmgebhjkbcpcaaGreatDoorW.PrintLast Go.Proofs.YtjmgebhjkbcpcaaGreatDoorW.PrintMore Go.Proofs.YtjmgebhjkbcpcaaGreatDoor.PCronParse
set_option maxRecDepth 100000
theorem tPieces (a : ByteArray) (c : UInt8) (hs : a.size < 1099511627776) (w : World) : Calls Tryz.prog 59 #[.string a, .int .u8 (c.toNat : Int)] w fun e w' => ∃ v0_ : Value, e = .returned (v0_) ∧ Kd.R Kd.string 9 w' w.heap.size (fun _ => True) v0_ ((pieces c (tx a)).map mk) ∧ Below w.heap.size w w' :=
  spec_cronPieces.calls (a.size + 1) a _ _ w (pieces_f a c hs _ (by omega))
theorem tEnds (kind : Nat) (hk6 : kind < 6) (a : ByteArray) (hs : a.size < 1099511627776) (w : World) :
    Calls Tryz.prog 95 #[.agg #[.int .i64 (low kind), .int .i64 (high kind), .int .i64 kind], .string a] w fun e w' => ∃ x y s t v, e = .returned (.tuple #[.int .i64 x, .int .i64 y, .bool s, .bool t, .int .i64 v]) ∧ SaysE (some (x, y, s, t, v)) (ends kind (tx a)) ∧ Below w.heap.size w w' := by
  obtain ⟨x, y, s, t, v, h, hq⟩ := ends_f kind hk6 a hs (a.size + 31) (by omega)
  exact (spec_cronEnds.calls _ _ _ _ _ x y s t v w h).mono fun e w' he => ⟨x, y, s, t, v, he.1, ⟨x, y, s, t, v, rfl, hq⟩, he.2⟩
theorem tStep (a : ByteArray) (hs : a.size < 1099511627776) (w : World) :
    Calls Tryz.prog 96 #[.string a] w fun e w' => ∃ n v, e = .returned (.tuple #[.int .i64 n, .int .i64 v]) ∧ Says (some (n, v)) (stepL (tx a)) ∧ Below w.heap.size w w' := by
  obtain ⟨n, v, h, hq⟩ := step_f a hs (a.size + 4) (by omega)
  exact (spec_CronStep.calls _ _ n v w h).mono fun e w' he => ⟨n, v, he.1, ⟨n, v, rfl, hq⟩, he.2⟩
theorem tWorse (a b : Int) (ha : a = 1 ∨ a = 0 ∨ a = 2) (hb : b = 1 ∨ b = 0 ∨ b = 2) (w : World) :
    Calls Tryz.prog 22 #[.int .i64 a, .int .i64 b] w fun e w' => ∃ c, e = .returned (.int .i64 c) ∧ (c = 1 ↔ a = 1 ∧ b = 1) ∧ (c = 1 ∨ c = 0 ∨ c = 2) ∧ Below w.heap.size w w' := by
  obtain ⟨c, h, h1, h2⟩ := worse_1 ha hb
  exact (spec_worse.calls a b c w h).mono fun e w' he => ⟨c, he.1, h1, h2, he.2⟩
theorem results_row_tmp {P : Program} {fn : Func} {p q : Tmp} {ty : TypeId} {vq : Value} (h : fn.results = #[.cell p ty, .tmp q]) (tmps : Array Value) (w : World) (g : Nat) (t : TypeId) (cs : Array Value) (fr : Nat × Nat) (d : TypeDesc)
    (hp : tmps.getD p undef = .pointer (some ⟨g, 0, none⟩)) (hq : tmps.getD q undef = vq) (hg : w.heap[g]? = some (.cells cs t fr))
    (hu : P.underlying ty = some d) (hd : (match d with | .struct _ | .array _ _ => true | _ => false) = true) (hi : (P.info? ty).map (·.size) = some cs.size) :
    (results fn tmps).run P w = .ok (.tuple #[.agg cs, vq]) w := by
  have hp' : tmps[p]?.getD undef = .pointer (some ⟨g, 0, none⟩) := by simpa using hp
  have hq' : tmps[q]?.getD undef = vq := by simpa using hq
  simp [results, h, hp', hq', asAddr, run_loadVar_row w g t ty cs fr d hg hu hd hi]
theorem und78 : Tryz.prog.underlying 78 = some (.struct (Tryz.prog.fieldsOf 78)) := by kernel_rfl
theorem inf78 : (Tryz.prog.info? 78).map (·.size) = some 3 := by kernel_rfl
/-- what stands of an item when its step has been read -/
def Pre (kind : Nat) (L : Bs) (lo hi k : Int) (star : Bool) (v : Int) : Prop :=
  (v = 1 ∧ ∃ lo' hi' k' : Nat, lo = lo' ∧ hi = hi' ∧ k = k' ∧ 0 < k' ∧ k' ≤ 1099511627776 ∧ lo' ≤ 1099511627776 ∧ hi' ≤ 1099511627776 ∧ item kind L = fin kind lo' hi' k' star) ∨ ((v = 0 ∨ v = 2) ∧ item kind L = none)
theorem value_le {kind : Nat} {l : Bs} {v : Nat} (h : value kind l = some v) : v ≤ 1099511627776 := by
  unfold value at h
  split at h
  · rename_i u hu
    injection h with h
    subst h
    unfold named at hu
    split at hu
    · cases hf : months.findIdx? (fun n => n == l.map up) with
      | none => rw [hf] at hu; simp at hu
      | some i =>
        rw [hf] at hu
        have := (List.findIdx?_eq_some_iff_findIdx_eq.1 hf).1
        have h12 : months.length = 12 := rfl
        simp at hu
        omega
    · split at hu
      · have := (List.findIdx?_eq_some_iff_findIdx_eq.1 hu).1
        have h7 : days.length = 7 := rfl
        omega
      · simp at hu
  · split at h
    · injection h with h
      omega
    · simp at h
theorem low_le (kind : Nat) : low kind ≤ 1 := by unfold low; split <;> (try split) <;> omega
theorem high_le (kind : Nat) : high kind ≤ 59 ∧ 6 ≤ high kind := by unfold high; (repeat' split) <;> omega
theorem ends_le {kind : Nat} {e : Bs} {lo hi : Nat} {s t : Bool} (h : ends kind e = some (lo, hi, s, t)) : lo ≤ 1099511627776 ∧ hi ≤ 1099511627776 := by
  have h1 := low_le kind
  have h2 := high_le kind
  unfold ends at h
  split at h
  · split at h
    · simp at h; omega
    · split at h
      · simp at h
      · rename_i a _ _ _
        cases hv : value kind a with
        | none => rw [hv] at h; simp at h
        | some u =>
          rw [hv] at h
          have := value_le hv
          simp at h
          omega
  · split at h
    · simp at h
    · split at h
      · rename_i hv hu
        have := value_le hv
        have := value_le hu
        simp at h
        omega
      · simp at h
  · simp at h
theorem pre1 {kind : Nat} {L p : Bs} (hL : pieces 47 L = [p]) {x y : Int} {s t : Bool} {v : Int} (h : SaysE (some (x, y, s, t, v)) (ends kind p)) : Pre kind L x y 1 s v := by
  obtain ⟨x', y', s', t', v', he, hq⟩ := h
  injection he with he
  simp only [Prod.mk.injEq] at he
  obtain ⟨rfl, rfl, rfl, rfl, rfl⟩ := he
  unfold Pre item
  rw [hL]
  dsimp only
  cases hE : ends kind p with
  | none =>
    rw [hE] at hq
    exact .inr ⟨hq, rfl⟩
  | some r =>
    obtain ⟨lo, hi, st, one⟩ := r
    rw [hE] at hq
    obtain ⟨rfl, rfl, rfl, rfl, rfl⟩ := hq
    obtain ⟨h1, h2⟩ := ends_le hE
    exact .inl ⟨rfl, lo, hi, 1, rfl, rfl, rfl, by omega, by omega, h1, h2, rfl⟩
theorem pre2 {kind : Nat} {L p q : Bs} (hL : pieces 47 L = [p, q]) {x y n c : Int} {s t : Bool} {v v2 : Int} (h : SaysE (some (x, y, s, t, v)) (ends kind p)) (h2 : Says (some (n, v2)) (stepL q))
    (hc : c = 1 ↔ v = 1 ∧ v2 = 1) (hc2 : c = 1 ∨ c = 0 ∨ c = 2) : Pre kind L x (if t && !s then high kind else y) n s c := by
  obtain ⟨x', y', s', t', v', he, hq⟩ := h
  injection he with he
  simp only [Prod.mk.injEq] at he
  obtain ⟨rfl, rfl, rfl, rfl, rfl⟩ := he
  obtain ⟨n', v2', he, hq2⟩ := h2
  injection he with he
  simp only [Prod.mk.injEq] at he
  obtain ⟨rfl, rfl⟩ := he
  have hh := (high_le kind).1
  unfold Pre item
  rw [hL]
  dsimp only
  cases hE : ends kind p with
  | none =>
    rw [hE] at hq
    refine .inr ⟨hc2.resolve_left (fun h => ?_), ?_⟩
    · have := (hc.1 h).1
      rcases hq with h | h <;> omega
    · cases stepL q <;> rfl
  | some r =>
    obtain ⟨lo, hi, st, one⟩ := r
    rw [hE] at hq
    cases hS : stepL q with
    | none =>
      rw [hS] at hq2
      refine .inr ⟨hc2.resolve_left (fun h => ?_), rfl⟩
      have := (hc.1 h).2
      rcases hq2 with h | h <;> omega
    | some k =>
      rw [hS] at hq2
      obtain ⟨rfl, rfl, rfl, rfl, rfl⟩ := hq
      obtain ⟨rfl, rfl⟩ := hq2
      obtain ⟨h1, h2⟩ := ends_le hE
      have hk : 0 < k ∧ k ≤ 1099511627776 := by
        unfold stepL at hS
        split at hS
        · rename_i hcond
          injection hS with hS
          omega
        · simp at hS
      refine .inl ⟨hc.2 ⟨rfl, rfl⟩, lo, (if t && !s then high kind else hi), k, rfl, ?_, rfl, hk.1, hk.2, h1, ?_, rfl⟩
      · split <;> rfl
      · split <;> omega
set_option maxHeartbeats 1000000 in
theorem tItem (kind : Nat) (hk6 : kind < 6) (a : ByteArray) (hs : a.size < 1099511627776) (w : World) :
    Calls Tryz.prog 60 #[.agg #[.int .i64 (low kind), .int .i64 (high kind), .int .i64 kind], .string a] w fun e w' =>
      ∃ (us : Array Value) (v : Int), e = .returned (.tuple #[.agg us, .int .i64 v]) ∧ Bools us ∧ (v = 1 ∨ v = 0 ∨ v = 2) ∧ (v = 1 ↔ (item kind (tx a)).isSome = true) ∧ Below w.heap.size w w' := by
  have HI := Lib.hid (inf35)
  have hpl : ∀ p ∈ pieces 47 (tx a), p.length ≤ a.size := fun p hp => by have := pieces_len hp; rw [tx_len] at this; exact this
  have hpn := pieces_ne 47 (tx a)
  obtain ⟨T, hT⟩ : ∃ T, pieces 47 (tx a) = T := ⟨_, rfl⟩
  rw [hT] at hpl hpn
  have HP := Lib.hid hpl
  clear hpl
  have HT := Lib.hid hT
  clear hT
  obtain ⟨lo, hlo⟩ : ∃ lo : Int, (low kind : Int) = lo := ⟨_, rfl⟩
  obtain ⟨hi, hhi⟩ : ∃ hi : Int, (high kind : Int) = hi := ⟨_, rfl⟩
  rw [hlo, hhi]
  have HL := Lib.hid (And.intro hlo hhi)
  clear hlo hhi
  go_enter Tryz.func60, Tryz.ntmps60
  go_upto_region 2 with (first | (go_at_call 59; refine (tPieces a 47 hs _).mono ?_; rintro e w1 ⟨v1, rfl, ho, hb1⟩))
  have e1 : w1.heap[w.heap.size]? = some (.cells #[.int .i64 lo, .int .i64 hi, .int .i64 kind] 78 (0, 0)) := by
    rw [hb1.block _ (by simp; omega), Below.heap_alloc _ _ _ (by simp)]
    exact heap_alloc_new _ _
  have e2 : ∃ z : Array Value, z.size = 64 ∧ w1.heap[w.heap.size + 1]? = some (.cells z 35 (0, 0)) := by
    rw [hb1.block _ (by simp)]
    exact ⟨_, rfl, heap_alloc2_new _ _ _⟩
  have hbb : Below w.heap.size w w1 := (bA (bA (Below.refl _ _) _) _).trans (hb1.mono (by simp; omega))
  rw [HT.out] at ho
  obtain ⟨TT, hTT⟩ : ∃ TT, T.map mk = TT := ⟨_, rfl⟩
  have hTl : TT.length = T.length := by rw [← hTT, List.length_map]
  rw [hTT] at ho
  obtain ⟨A, cp, rfl⟩ := Kd.R_slice ho
  have E1 := Lib.hid e1
  have E2 := Lib.hid e2
  have HB := Lib.hid hbb
  have HO := Lib.hid ho
  clear e1 e2 hbb ho hb1
  by_cases h3 : 2 < T.length
  · have hd : decide ((2 : Int) < (TT.length : Int)) = true := by simp; omega
    have hno : item kind (tx a) = none := by
      unfold item
      rw [HT.out]
      match T, h3 with
      | _ :: _ :: _ :: _, _ => rfl
    go_wp2_with ((with_reducible refine wpList_store_row (o := ⟨none, .store 35 (.tmp 4) (.tmp 22), _, _, _, _⟩) ?b1 35 (.tmp 4) (.tmp 22) ?b2 (w.heap.size + 1) (Array.replicate 64 (.bool false)) ?b3 ?b4 35 E2.out.choose ?b5 ?b6 ?b7 ?b8 ?_); (case b1 => rfl); (case b2 => rfl); (case b3 => rfl); (case b4 => rfl); (case b5 => exact E2.out.choose_spec.2); (case b6 => rw [Bools.zero.sz]; exact HI.out); (case b7 => rw [Bools.zero.sz]; exact E2.out.choose_spec.1); (case b8 => exact Bools.zero.all))
    refine bodyPost_ret (v := .tuple #[.agg (Array.replicate 64 (.bool false)), .int .i64 0]) (results_row_tmp (p := 4) (q := 5) rfl _ _ (w.heap.size + 1) 35 _ (0, 0) _ rfl rfl (setRow_heap _ _ E2.out.choose _ 35 (0, 0) E2.out.choose_spec.2) und35 rfl (by rw [Bools.zero.sz]; exact HI.out)) rfl ⟨_, _, rfl, Bools.zero, .inr (.inl rfl), by rw [hno]; simp, Below.setRow' HB.out (by omega) _⟩
  · have hd : decide ((2 : Int) < (TT.length : Int)) = false := by simp; omega
    obtain ⟨p, r, hT⟩ : ∃ p r, T = p :: r := by
      cases T with
      | nil => exact absurd rfl hpn
      | cons p r => exact ⟨p, r, rfl⟩
    have hlr : r.length ≤ 1 := by rw [hT] at h3; simp at h3; omega
    have q0 : (0 : Int) < (TT.length : Int) := by rw [hTl, hT]; simp
    have hp0 : p.length ≤ a.size := HP.out p (by rw [hT]; simp)
    obtain ⟨ad, rfl, hx0⟩ := Kd.at_string (Kd.R_reads' HO.out).2.2 0 (by omega) q0
    have hrd : rdOf ByteArray.empty TT 0 = mk p := by rw [← hTT, hT]; rfl
    rw [hrd] at hx0
    have hq0 : (0 < TT.length) = True := eq_true (by rw [hTl, hT]; simp)
    (try rw [show ((0 : Int)).toNat = 0 from rfl] at hx0)
    (try rw [Addr.add_zero'] at hx0)
    have hE := fun w => tEnds kind hk6 (mk p) (by rw [mk_size]; omega) w
    rw [HL.out.1, HL.out.2] at hE
    have HE := Lib.hid hE
    have HT2 := Lib.hid hT
    have HTT := Lib.hid (And.intro hTT hTl)
    clear q0 hrd hE hT hTT hTl
    go_upto_region 4 with fail
    go_cut [7, 8, 9, 10, 11] (fun v7 v8 v9 v10 v11 wc => ∃ (x y : Int) (s t : Bool) (v : Int), v7 = .int .i64 x ∧ v8 = .int .i64 y ∧ v9 = .bool s ∧ v10 = .bool t ∧ v11 = .int .i64 v ∧ Aside0 (SaysE (some (x, y, s, t, v)) (ends kind p)) ∧ Aside0 (Below w1.heap.size w1 wc))
    case first =>
      have c0 : w1.drew.cell? ⟨w.heap.size, 0, none⟩ = some (.int .i64 lo) := by rw [cell_of_row w1.drew _ _ _ _ _ E1.out]; rfl
      have c1 : w1.drew.cell? ⟨w.heap.size, 1, none⟩ = some (.int .i64 hi) := by rw [cell_of_row w1.drew _ _ _ _ _ E1.out]; rfl
      have c2 : w1.drew.cell? ⟨w.heap.size, 2, none⟩ = some (.int .i64 kind) := by rw [cell_of_row w1.drew _ _ _ _ _ E1.out]; rfl
      have hx1 : w1.drew.cell? ad = some (.string (mk p)) := hx0
      go_region_with (go_at_call 95; refine (HE.out _).mono ?_; rintro e w2 ⟨x, y, s, t, v, rfl, hse, hb2⟩)
      all_goals (simp only [List.getElem_toArray, List.getElem_cons_succ, List.getElem_cons_zero, Act.put, List.setIfInBounds_toArray, List.set_cons_zero, List.set_cons_succ]; go_wp2_with fail; go_meet; exact ⟨x, y, s, t, v, rfl, rfl, rfl, rfl, rfl, ⟨hse⟩, ⟨(Below.refl _ _).drew.trans hb2⟩⟩)
    obtain ⟨x, y, s, t, v, rfl, rfl, rfl, rfl, rfl, HS, HW⟩ := hcut
    go_upto_if 36 with fail
    go_cut [8, 11, 12] (fun v8 v11 v12 wd => ∃ (y' k v' : Int), v8 = .int .i64 y' ∧ v11 = .int .i64 v' ∧ v12 = .int .i64 k ∧ Aside0 (Pre kind (tx a) x y' k s v') ∧ Aside0 (Below wc.heap.size wc wd))
    case first =>
      cases r with
      | nil =>
        have hl : TT.length = 1 := by rw [HTT.out.2, HT2.out]; rfl
        have e2 : ((TT.length : Int) == 2) = false := by rw [hl]; rfl
        have hL : pieces 47 (tx a) = [p] := by rw [HT.out, HT2.out]
        have HPre := Lib.hid (pre1 (kind := kind) hL HS.out)
        clear hL hl
        go_wp2
        go_meet
        case rel => exact ⟨_, _, _, rfl, rfl, rfl, ⟨HPre.out⟩, ⟨Below.refl _ _⟩⟩
      | cons q r =>
        have hr : r = [] := by cases r with
          | nil => rfl
          | cons _ _ => simp at hlr
        subst hr
        have hl : TT.length = 2 := by rw [HTT.out.2, HT2.out]; rfl
        have e2 : ((TT.length : Int) == 2) = true := by rw [hl]; rfl
        have hL : pieces 47 (tx a) = [p, q] := by rw [HT.out, HT2.out]
        have hq0 : q.length ≤ a.size := HP.out q (by rw [HT2.out]; simp)
        have ho2 := Kd.R_below (Kd.R_below HO.out (below_drew (Below.refl _ _))) (Below.refl _ _)
        have ho3 := Kd.R_below HO.out HW.out
        obtain ⟨ad', hea, hx1⟩ := Kd.at_string (Kd.R_reads' ho3).2.2 1 (by omega) (by omega)
        have hea' : ad = ad' := by injection hea
        subst hea'
        have hrd : rdOf ByteArray.empty TT 1 = mk q := by rw [← HTT.out.1, HT2.out]; rfl
        rw [hrd] at hx1
        have hq1 : (1 < TT.length) = True := eq_true (by omega)
        have hq1i : ((1 : Int) < (TT.length : Int)) = True := eq_true (by omega)
        (try rw [show ((1 : Int)).toNat = 1 from rfl] at hx1)
        (try simp only [Nat.reduceMul, Nat.reduceEqDiff, Go.Addr.add, ↓reduceIte] at hx1)
        clear ho2 ho3 hea hrd hl
        have HQ := Lib.hid (And.intro hq0 hL)
        clear hq0 hL
        have hv : v = 1 ∨ v = 0 ∨ v = 2 := by
          obtain ⟨_, _, _, _, v', he, hq⟩ := HS.out
          injection he with he
          simp only [Prod.mk.injEq] at he
          obtain ⟨_, _, _, _, rfl⟩ := he
          split at hq
          · exact .inl hq.1
          · exact .inr hq
        have HV := Lib.hid hv
        clear hv
        have hB1 : w.heap.size < w1.heap.size := (Array.getElem?_eq_some_iff.1 E1.out).1
        have eB : wc.heap[w.heap.size]? = some (.cells #[.int .i64 lo, .int .i64 hi, .int .i64 kind] 78 (0, 0)) := by rw [HW.out.block _ hB1]; exact E1.out
        have EB := Lib.hid eB
        clear eB hB1
        cases s <;> cases t
        all_goals
          go_wp2_with (first
            | (go_at_call 96; refine (tStep (mk q) (by rw [mk_size]; have := HQ.out.1; omega) _).mono ?_; rintro e w2 ⟨n2, v2, rfl, hs2, hb2⟩; have HS2 := Lib.hid hs2; have HB2 := Lib.hid hb2; clear hs2 hb2)
            | (go_at_call 22; refine (tWorse v v2 HV.out (by (obtain ⟨_, v', he, hq⟩ := HS2.out; injection he with he; simp only [Prod.mk.injEq] at he; obtain ⟨_, rfl⟩ := he; split at hq; exact .inl hq.1; exact .inr hq)) _).mono ?_; rintro e w3 ⟨c, rfl, hc1, hc2, hb3⟩; have HC := Lib.hid (And.intro hc1 hc2); have HB3 := Lib.hid hb3; clear hc1 hc2 hb3; have b3 : w3.cell? ⟨w.heap.size, 1, none⟩ = some (.int .i64 hi) := (by have hl1 := (Array.getElem?_eq_some_iff.1 EB.out).1; have e3 : w3.heap[w.heap.size]? = some (.cells #[.int .i64 lo, .int .i64 hi, .int .i64 kind] 78 (0, 0)) := (by rw [HB3.out.block _ (by have := HB2.out.size; omega), HB2.out.block _ hl1]; exact EB.out); rw [cell_of_row _ _ _ _ _ _ e3]; rfl)))
        all_goals
          have HP2 := pre2 (kind := kind) HQ.out.2 HS.out (by have := HS2.out; rw [tx_mk] at this; exact this) HC.out.1 HC.out.2
          go_meet
          (case rel => exact ⟨_, _, _, rfl, rfl, rfl, ⟨by simpa [HL.out.2] using HP2⟩, ⟨HB2.out.trans (HB3.out.mono HB2.out.size)⟩⟩)
    rename_i wd
    obtain ⟨y', k, v', rfl, rfl, rfl, HPR, HW2⟩ := hcut
    have hB1 : w.heap.size + 1 < w1.heap.size := (Array.getElem?_eq_some_iff.1 E2.out.choose_spec.2).1
    have hWW := HW.out.trans (HW2.out.mono HW.out.size)
    have e2w : ∃ z : Array Value, z.size = 64 ∧ wc.heap[w.heap.size + 1]? = some (.cells z 35 (0, 0)) := by rw [hWW.block _ hB1]; exact E2.out
    have ebw : wc.heap[w.heap.size]? = some (.cells #[.int .i64 lo, .int .i64 hi, .int .i64 kind] 78 (0, 0)) := by rw [hWW.block _ (by omega)]; exact E1.out
    have hbw : Below w.heap.size w wc := HB.out.trans (hWW.mono HB.out.size)
    have E2W := Lib.hid e2w
    have EBW := Lib.hid ebw
    have HBW := Lib.hid hbw
    clear e2w ebw hbw hWW hB1
    by_cases c1 : v' = 1
    case neg =>
      have hne : (v' != 1) = true := bne_iff_ne.mpr c1
      have hno : (v' = 0 ∨ v' = 2) ∧ item kind (tx a) = none := by
        rcases HPR.out with h | h
        · exact absurd h.1 c1
        · exact h
      have HNO := Lib.hid hno
      clear hno c1
      go_wp2_with ((with_reducible refine wpList_store_row (o := ⟨none, .store 35 (.tmp 4) (.tmp 57), _, _, _, _⟩) ?b1 35 (.tmp 4) (.tmp 57) ?b2 (w.heap.size + 1) (Array.replicate 64 (.bool false)) ?b3 ?b4 35 E2W.out.choose ?b5 ?b6 ?b7 ?b8 ?_); (case b1 => rfl); (case b2 => rfl); (case b3 => rfl); (case b4 => rfl); (case b5 => exact E2W.out.choose_spec.2); (case b6 => rw [Bools.zero.sz]; exact HI.out); (case b7 => rw [Bools.zero.sz]; exact E2W.out.choose_spec.1); (case b8 => exact Bools.zero.all))
      refine bodyPost_ret (v := .tuple #[.agg (Array.replicate 64 (.bool false)), .int .i64 v']) (results_row_tmp (p := 4) (q := 5) rfl _ _ (w.heap.size + 1) 35 _ (0, 0) _ rfl rfl (setRow_heap _ _ E2W.out.choose _ 35 (0, 0) E2W.out.choose_spec.2) und35 rfl (by rw [Bools.zero.sz]; exact HI.out)) rfl ⟨_, _, rfl, Bools.zero, .inr HNO.out.1, by rw [HNO.out.2]; have := HNO.out.1; simp; omega, Below.setRow' HBW.out (by omega) _⟩
    case pos =>
      subst c1
      have hfin : ∃ lo' hi' k' : Nat, x = lo' ∧ y' = hi' ∧ k = k' ∧ 0 < k' ∧ k' ≤ 1099511627776 ∧ lo' ≤ 1099511627776 ∧ hi' ≤ 1099511627776 ∧ item kind (tx a) = fin kind lo' hi' k' s := by
        rcases HPR.out with h | h
        · exact h.2
        · rcases h.1 with h | h <;> omega
      clear HPR
      obtain ⟨lo', hi', k', rfl, rfl, rfl, hk0, hk1, hlo', hhi', hitem⟩ := hfin
      have d0 : wc.cell? ⟨w.heap.size, 0, none⟩ = some (.int .i64 lo) := by rw [cell_of_row _ _ _ _ _ _ EBW.out]; rfl
      have d1 : wc.cell? ⟨w.heap.size, 1, none⟩ = some (.int .i64 hi) := by rw [cell_of_row _ _ _ _ _ _ EBW.out]; rfl
      have hno : ∀ (h : ¬ (low kind ≤ lo' ∧ hi' ≤ high kind ∧ lo' ≤ hi')), item kind (tx a) = none := fun h => by rw [hitem]; unfold fin; rw [if_neg h]
      by_cases g1 : (lo' : Int) < lo
      · have g1t : decide ((lo' : Int) < lo) = true := decide_eq_true g1
        have HNO := Lib.hid (hno (fun h => by have := HL.out.1; omega))
        clear hno hitem
        go_wp2_with ((with_reducible refine wpList_store_row (o := ⟨none, .store 35 (.tmp 4) (.tmp 74), _, _, _, _⟩) ?b1 35 (.tmp 4) (.tmp 74) ?b2 (w.heap.size + 1) (Array.replicate 64 (.bool false)) ?b3 ?b4 35 E2W.out.choose ?b5 ?b6 ?b7 ?b8 ?_); (case b1 => rfl); (case b2 => rfl); (case b3 => rfl); (case b4 => rfl); (case b5 => exact E2W.out.choose_spec.2); (case b6 => rw [Bools.zero.sz]; exact HI.out); (case b7 => rw [Bools.zero.sz]; exact E2W.out.choose_spec.1); (case b8 => exact Bools.zero.all))
        refine bodyPost_ret (v := .tuple #[.agg (Array.replicate 64 (.bool false)), .int .i64 0]) (results_row_tmp (p := 4) (q := 5) rfl _ _ (w.heap.size + 1) 35 _ (0, 0) _ rfl rfl (setRow_heap _ _ E2W.out.choose _ 35 (0, 0) E2W.out.choose_spec.2) und35 rfl (by rw [Bools.zero.sz]; exact HI.out)) rfl ⟨_, _, rfl, Bools.zero, .inr (.inl rfl), by rw [HNO.out]; simp, Below.setRow' HBW.out (by omega) _⟩
      · have g1t : decide ((lo' : Int) < lo) = false := decide_eq_false g1
        by_cases g2 : hi < (hi' : Int)
        · have g2t : decide (hi < (hi' : Int)) = true := decide_eq_true g2
          have HNO := Lib.hid (hno (fun h => by have := HL.out.2; omega))
          clear hno hitem
          go_wp2_with ((with_reducible refine wpList_store_row (o := ⟨none, .store 35 (.tmp 4) (.tmp 74), _, _, _, _⟩) ?b1 35 (.tmp 4) (.tmp 74) ?b2 (w.heap.size + 1) (Array.replicate 64 (.bool false)) ?b3 ?b4 35 E2W.out.choose ?b5 ?b6 ?b7 ?b8 ?_); (case b1 => rfl); (case b2 => rfl); (case b3 => rfl); (case b4 => rfl); (case b5 => exact E2W.out.choose_spec.2); (case b6 => rw [Bools.zero.sz]; exact HI.out); (case b7 => rw [Bools.zero.sz]; exact E2W.out.choose_spec.1); (case b8 => exact Bools.zero.all))
          refine bodyPost_ret (v := .tuple #[.agg (Array.replicate 64 (.bool false)), .int .i64 0]) (results_row_tmp (p := 4) (q := 5) rfl _ _ (w.heap.size + 1) 35 _ (0, 0) _ rfl rfl (setRow_heap _ _ E2W.out.choose _ 35 (0, 0) E2W.out.choose_spec.2) und35 rfl (by rw [Bools.zero.sz]; exact HI.out)) rfl ⟨_, _, rfl, Bools.zero, .inr (.inl rfl), by rw [HNO.out]; simp, Below.setRow' HBW.out (by omega) _⟩
        · have g2t : decide (hi < (hi' : Int)) = false := decide_eq_false g2
          by_cases g3 : (hi' : Int) < (lo' : Int)
          · have g3t : decide ((hi' : Int) < (lo' : Int)) = true := decide_eq_true g3
            have HNO := Lib.hid (hno (fun h => by omega))
            clear hno hitem
            go_wp2_with ((with_reducible refine wpList_store_row (o := ⟨none, .store 35 (.tmp 4) (.tmp 74), _, _, _, _⟩) ?b1 35 (.tmp 4) (.tmp 74) ?b2 (w.heap.size + 1) (Array.replicate 64 (.bool false)) ?b3 ?b4 35 E2W.out.choose ?b5 ?b6 ?b7 ?b8 ?_); (case b1 => rfl); (case b2 => rfl); (case b3 => rfl); (case b4 => rfl); (case b5 => exact E2W.out.choose_spec.2); (case b6 => rw [Bools.zero.sz]; exact HI.out); (case b7 => rw [Bools.zero.sz]; exact E2W.out.choose_spec.1); (case b8 => exact Bools.zero.all))
            refine bodyPost_ret (v := .tuple #[.agg (Array.replicate 64 (.bool false)), .int .i64 0]) (results_row_tmp (p := 4) (q := 5) rfl _ _ (w.heap.size + 1) 35 _ (0, 0) _ rfl rfl (setRow_heap _ _ E2W.out.choose _ 35 (0, 0) E2W.out.choose_spec.2) und35 rfl (by rw [Bools.zero.sz]; exact HI.out)) rfl ⟨_, _, rfl, Bools.zero, .inr (.inl rfl), by rw [HNO.out]; simp, Below.setRow' HBW.out (by omega) _⟩
          · have g3t : decide ((hi' : Int) < (lo' : Int)) = false := decide_eq_false g3
            have HG := Lib.hid (And.intro hk0 (And.intro hk1 (And.intro hlo' (And.intro hhi' hitem))))
            have HQ := Lib.hid (And.intro g1 (And.intro g2 g3))
            have hh := high_le kind
            have h63 : hi' ≤ 59 := by have := HL.out.2; omega
            clear hk0 hk1 hlo' hhi' hitem hno
            go_upto_region 17 with fail
            generalize hW : World.alloc _ _ = W
            have hbl := HBW.out.size
            have hb0 : ∃ z : Array Value, Bools z ∧ W.heap[wc.heap.size]? = some (.cells z 35 (0, 0)) := by
              rw [← hW]
              exact ⟨_, Bools.zero, heap_alloc_new _ _⟩
            have hb1 : ∃ z : Array Value, z.size = 64 ∧ W.heap[w.heap.size + 1]? = some (.cells z 35 (0, 0)) := by
              obtain ⟨z, hz, hh⟩ := E2W.out
              have hlt : w.heap.size + 1 < wc.heap.size := (Array.getElem?_eq_some_iff.1 hh).1
              rw [← hW, Below.heap_alloc _ _ _ hlt]
              exact ⟨z, hz, hh⟩
            have hne : w.heap.size + 1 ≠ wc.heap.size := by
              obtain ⟨z, hz, hh⟩ := E2W.out
              have hlt : w.heap.size + 1 < wc.heap.size := (Array.getElem?_eq_some_iff.1 hh).1
              omega
            have hbW : Below w.heap.size w W := by rw [← hW]; exact bA HBW.out _
            obtain ⟨g, hg⟩ : ∃ g : Nat, wc.heap.size = g := ⟨_, rfl⟩
            rw [hg] at hb0 hne ⊢
            have hgw : w.heap.size ≤ g := by omega
            clear hW hg hbl hh d0 d1 E2W EBW HBW
            have H0 := Lib.hid hb0
            have H1 := Lib.hid hb1
            have HW := Lib.hid hbW
            have HNE := Lib.hid (And.intro hne hgw)
            clear hb0 hb1 hbW hne hgw
            have hlen : (lo' : Int) ≤ (hi' : Int) := g3
            go_loopw [16] (fun v wr => ∃ (n : Nat), v = .int .i64 n ∧ Aside0 (lo' ≤ n ∧ n ≤ hi' + 1) ∧ Aside0 (∃ us : Array Value, Bools us ∧ wr.heap[g]? = some (.cells us 35 (0, 0))) ∧ Aside0 (∃ z : Array Value, z.size = 64 ∧ wr.heap[w.heap.size + 1]? = some (.cells z 35 (0, 0))) ∧ Aside0 (Below w.heap.size w wr)) (fun v _ => 100 - (intOf v).toNat)
            case atStart => exact ⟨lo', rfl, ⟨by omega⟩, ⟨H0.out⟩, ⟨H1.out⟩, ⟨HW.out⟩⟩
            case round =>
              obtain ⟨n, rfl, HN, HB0, HB1, HB⟩ := hrel
              obtain ⟨us, hus, hg0⟩ := HB0.out
              have HU := Lib.hid hus
              have HG0 := Lib.hid hg0
              clear hus hg0
              by_cases c : (n : Int) ≤ (hi' : Int)
              · have ct : decide ((n : Int) ≤ (hi' : Int)) = true := decide_eq_true c
                have hn0 : (lo' : Int) ≤ (n : Int) := by have := HN.out; omega
                have hn : n < 63 := by omega
                have hk0 : (k' : Int) ≠ 0 := by have := HG.out.1; omega
                have hkz : ((k' : Int) == 0) = false := by simpa using hk0
                obtain ⟨x, hx⟩ := HU.out.bl (1 + n) (by omega)
                have c1 : wr.cell? ⟨g, 1 + n, none⟩ = some (.bool x) := by rw [cell_of_row _ _ _ _ _ _ HG0.out]; exact hx
                have f1 : wr.frozen? ⟨g, 1 + n, none⟩ = false := frozen_of_row _ _ _ _ _ HG0.out
                clear hx
                go_wp2
                go_roundw
                case measure => simp [intOf]; omega
                case rel =>
                  exact ⟨n + 1, by go_num, ⟨by have := HN.out; omega⟩, ⟨_, HU.out.set (1 + n) _, heap_setCell_same _ _ _ _ _ _ HG0.out⟩, ⟨by rw [heap_setCell_other _ _ _ _ (fun h => HNE.out.1 h)]; exact HB1.out⟩, ⟨HB.out.setCell HNE.out.2 _⟩⟩
              · have ct : decide ((n : Int) ≤ (hi' : Int)) = false := decide_eq_false c
                obtain ⟨x, hx⟩ := HU.out.bl 0 (by omega)
                have c1 : wr.cell? ⟨g, 0, none⟩ = some (.bool x) := by rw [cell_of_row _ _ _ _ _ _ HG0.out]; exact hx
                have f1 : wr.frozen? ⟨g, 0, none⟩ = false := frozen_of_row _ _ _ _ _ HG0.out
                clear hx
                obtain ⟨y0, hy0⟩ : ∃ y0 : Bool, y0 = (s && ((k' : Int) == 1)) := ⟨_, rfl⟩
                have hsome : (item kind (tx a)).isSome = true := by
                  rw [HG.out.2.2.2.2]
                  unfold fin
                  rw [if_pos (by have := HL.out.1; have := HL.out.2; have := HQ.out; omega)]
                  rfl
                have HS2 := Lib.hid hsome
                clear hsome
                cases s
                · have e0 : y0 = false := hy0
                  clear hy0
                  subst e0
                  go_wp2_with (first
        | ((with_reducible refine wpList_load_row (o := ⟨some 96, _, _, _, _, _⟩) ?a1 35 (.tmp 15) ?a2 g ?a3 35 (us.setIfInBounds 0 (.bool false)) (0, 0) _ ?a4 und35 ?a5 ?a6 ?_); (case a1 => rfl); (case a2 => rfl); (case a3 => rfl); (case a5 => rfl); (case a6 => rw [(HU.out.set 0 false).sz]; exact HI.out); (case a4 => exact heap_setCell_same _ _ _ _ _ _ HG0.out))
        | ((with_reducible refine wpList_store_row (o := ⟨none, .store 35 (.tmp 4) (.tmp 96), _, _, _, _⟩) ?b1 35 (.tmp 4) (.tmp 96) ?b2 (w.heap.size + 1) (us.setIfInBounds 0 (.bool false)) ?b3 ?b4 35 HB1.out.choose ?b5 ?b6 ?b7 ?b8 ?_); (case b1 => rfl); (case b2 => rfl); (case b3 => rfl); (case b4 => rfl); (case b5 => rw [heap_setCell_other _ _ _ _ (fun h => HNE.out.1 h)]; exact HB1.out.choose_spec.2); (case b6 => rw [(HU.out.set 0 false).sz]; exact HI.out); (case b7 => rw [(HU.out.set 0 false).sz]; exact HB1.out.choose_spec.1); (case b8 => exact (HU.out.set 0 false).all)))
                  refine bodyPost_ret (v := .tuple #[.agg (us.setIfInBounds 0 (.bool false)), .int .i64 1]) (results_row_tmp (p := 4) (q := 5) rfl _ _ (w.heap.size + 1) 35 _ (0, 0) _ rfl rfl (setRow_heap _ _ HB1.out.choose _ 35 (0, 0) ?_) und35 rfl ?_) rfl ⟨_, _, rfl, HU.out.set 0 false, .inl rfl, ⟨fun _ => HS2.out, fun _ => rfl⟩, ?_⟩
                  · rw [heap_setCell_other _ _ _ _ (fun h => HNE.out.1 h)]; exact HB1.out.choose_spec.2
                  · rw [(HU.out.set 0 false).sz]; exact HI.out
                  · exact Below.setRow' (HB.out.setCell HNE.out.2 _) (by omega) _
                · have e0 : ((k' : Int) == 1) = y0 := by rw [hy0]; rfl
                  clear hy0
                  go_wp2_with (first
        | ((with_reducible refine wpList_load_row (o := ⟨some 96, _, _, _, _, _⟩) ?a1 35 (.tmp 15) ?a2 g ?a3 35 (us.setIfInBounds 0 (.bool y0)) (0, 0) _ ?a4 und35 ?a5 ?a6 ?_); (case a1 => rfl); (case a2 => rfl); (case a3 => rfl); (case a5 => rfl); (case a6 => rw [(HU.out.set 0 y0).sz]; exact HI.out); (case a4 => exact heap_setCell_same _ _ _ _ _ _ HG0.out))
        | ((with_reducible refine wpList_store_row (o := ⟨none, .store 35 (.tmp 4) (.tmp 96), _, _, _, _⟩) ?b1 35 (.tmp 4) (.tmp 96) ?b2 (w.heap.size + 1) (us.setIfInBounds 0 (.bool y0)) ?b3 ?b4 35 HB1.out.choose ?b5 ?b6 ?b7 ?b8 ?_); (case b1 => rfl); (case b2 => rfl); (case b3 => rfl); (case b4 => rfl); (case b5 => rw [heap_setCell_other _ _ _ _ (fun h => HNE.out.1 h)]; exact HB1.out.choose_spec.2); (case b6 => rw [(HU.out.set 0 y0).sz]; exact HI.out); (case b7 => rw [(HU.out.set 0 y0).sz]; exact HB1.out.choose_spec.1); (case b8 => exact (HU.out.set 0 y0).all)))
                  refine bodyPost_ret (v := .tuple #[.agg (us.setIfInBounds 0 (.bool y0)), .int .i64 1]) (results_row_tmp (p := 4) (q := 5) rfl _ _ (w.heap.size + 1) 35 _ (0, 0) _ rfl rfl (setRow_heap _ _ HB1.out.choose _ 35 (0, 0) ?_) und35 rfl ?_) rfl ⟨_, _, rfl, HU.out.set 0 y0, .inl rfl, ⟨fun _ => HS2.out, fun _ => rfl⟩, ?_⟩
                  · rw [heap_setCell_other _ _ _ _ (fun h => HNE.out.1 h)]; exact HB1.out.choose_spec.2
                  · rw [(HU.out.set 0 y0).sz]; exact HI.out
                  · exact Below.setRow' (HB.out.setCell HNE.out.2 _) (by omega) _
end Go.Proofs.YtjmgebhjkbcpcaaGreatDoor.Txt
end
section
set_option linter.unusedVariables false
set_option linter.unusedSimpArgs false
namespace Go.Proofs.YtjmgebhjkbcpcaaGreatDoor.Txt
open Go.Proofs.YtjmgebhjkbcpcaaGreatDoor.NM
open Go Go.RowKit Go.Proofs.YtjmgebhjkbcpcaaGreatDoorW.PrintWords Go.Proofs.YtjmgebhjkbcpcaaGreatDoorW.PrintLast Go.Proofs.YtjmgebhjkbcpcaaGreatDoorW.PrintMore Go.Proofs.YtjmgebhjkbcpcaaGreatDoor.PCronParse
/-- a block that holds strings -/
def Strs (w : World) (g : Nat) (xs : List ByteArray) : Prop := ∃ cells : Array Value, w.heap[g]? = some (.cells cells 9 (0, 0)) ∧ ∀ i (h : i < xs.length), cells[i]? = some (.string xs[i])
theorem Strs.cell {w : World} {g : Nat} {xs : List ByteArray} (h : Strs w g xs) (i : Nat) (hi : i < xs.length) : w.cell? ⟨g, i, none⟩ = some (.string xs[i]) := by
  obtain ⟨cs, h1, h2⟩ := h
  rw [cell_of_row _ _ _ _ _ _ h1]
  exact h2 i hi
theorem Strs.lt {w : World} {g : Nat} {xs : List ByteArray} (h : Strs w g xs) : g < w.heap.size := by
  obtain ⟨cs, h1, _⟩ := h
  exact (Array.getElem?_eq_some_iff.1 h1).1
theorem Strs.move {w w' : World} {g : Nat} {xs : List ByteArray} (h : Strs w g xs) (hm : w'.heap[g]? = w.heap[g]?) : Strs w' g xs := by
  obtain ⟨cs, h1, h2⟩ := h
  exact ⟨cs, by rw [hm]; exact h1, h2⟩
theorem Strs.of_R {base : Nat} {ok : Nat → Prop} {w : World} {v : Value} {xs : List ByteArray} (h : Kd.R Kd.string 9 w base ok v xs) (hn : 0 < xs.length) :
    ∃ g c, v = .slice (some ⟨g, 0, none⟩) xs.length c ∧ base ≤ g ∧ Strs w g xs := by
  obtain ⟨ad, c, rfl⟩ := Kd.R_slice1 h hn
  obtain ⟨g, rfl⟩ := Kd.R_head h
  obtain ⟨_, hb, hlt, q, hq, cells, hc⟩ := (Kd.R_bound h).1 g rfl
  have hq9 : q = 9 := by simpa [Kd.string, Kd.scalar] using hq
  subst hq9
  refine ⟨g, c, rfl, hb, cells, hc, fun i hi => ?_⟩
  obtain ⟨ad', he, hx⟩ := Kd.at_string (Kd.R_reads' h).2.2 i (by omega) (by omega)
  injection he with he
  subst he
  have e1 : ((⟨g, 0, none⟩ : Addr).add ((i : Int).toNat)) = ⟨g, i, none⟩ := by simp [Addr.add]; omega
  rw [e1, cell_of_row _ _ _ _ _ _ hc] at hx
  rw [hx]
  have : rdOf ByteArray.empty xs (i : Int) = xs[i] := by simp [rdOf, hi]
  rw [this]
theorem tPieces' (a : ByteArray) (c : UInt8) (hs : a.size < 1099511627776) (w : World) : Calls Tryz.prog 59 #[.string a, .int .u8 (c.toNat : Int)] w fun e w' =>
    ∃ g cp, e = .returned (.slice (some ⟨g, 0, none⟩) (pieces c (tx a)).length cp) ∧ w.heap.size ≤ g ∧ Strs w' g ((pieces c (tx a)).map mk) ∧ Below w.heap.size w w' :=
  (tPieces a c hs w).mono fun e w' ⟨v, he, ho, hb⟩ => by
    obtain ⟨g, cp, hv, hg, hst⟩ := Strs.of_R ho (by rw [List.length_map]; exact List.length_pos_iff.2 (pieces_ne c (tx a)))
    rw [List.length_map] at hv
    exact ⟨g, cp, by rw [he, hv], hg, hst, hb⟩
end Go.Proofs.YtjmgebhjkbcpcaaGreatDoor.Txt
end
section
set_option linter.unusedVariables false
set_option linter.unusedSimpArgs false
/- the program's splitter does what pieces does -/
namespace Go.Proofs.YtjmgebhjkbcpcaaGreatDoor.Txt
open Go Go.RowKit Go.Proofs.YtjmgebhjkbcpcaaGreatDoorW.PrintWords Go.Proofs.YtjmgebhjkbcpcaaGreatDoorW.PrintLast Go.Proofs.YtjmgebhjkbcpcaaGreatDoorW.PrintMore Go.Proofs.YtjmgebhjkbcpcaaGreatDoor.PzzSplit
def fi (c : UInt8) : Bs → Option Nat
  | [] => none
  | x :: xs => if x = c then some 0 else (fi c xs).map (· + 1)
theorem fi_none {c : UInt8} {l : Bs} (h : fi c l = none) : pieces c l = [l] := by
  induction l with
  | nil => rfl
  | cons x xs ih =>
    unfold fi at h
    split at h
    · simp at h
    · rename_i e
      rw [pieces_cons, if_neg e, ih (by simpa using h)]
      rfl
theorem fi_some {c : UInt8} {l : Bs} {i : Nat} (h : fi c l = some i) : i < l.length ∧ pieces c l = l.take i :: pieces c (l.drop (i + 1)) := by
  induction l generalizing i with
  | nil => simp [fi] at h
  | cons x xs ih =>
    unfold fi at h
    split at h
    · rename_i e
      injection h with h
      subst h
      rw [pieces_cons, if_pos e]
      exact ⟨by simp, rfl⟩
    · rename_i e
      rw [Option.map_eq_some_iff] at h
      obtain ⟨j, hj, rfl⟩ := h
      obtain ⟨h1, h2⟩ := ih hj
      rw [pieces_cons, if_neg e, h2]
      exact ⟨by simp; omega, rfl⟩
def fiI (c : UInt8) (l : Bs) (i : Nat) : Int := match fi c l with
  | none => -1
  | some j => ((i + j : Nat) : Int)
theorem index_l0 (a : ByteArray) (c : UInt8) (hs : a.size < 1099511627776) : ∀ (m i k : Nat), a.size - i = m → i ≤ a.size → m < k → cron_zzIndex.l0 k a (mk [c]) i = some (fiI c ((tx a).drop i) i) := by
  intro m
  induction m with
  | zero =>
    intro i k hm hi hk
    obtain ⟨k, rfl⟩ : ∃ j, k = j + 1 := ⟨k - 1, by omega⟩
    have e : i = a.size := by omega
    subst e
    simp only [cron_zzIndex.l0]
    have e1 : ((mk [c]).size : Int) = 1 := rfl
    rw [e1, w64 (by omega), if_neg (by omega)]
    have : (tx a).drop a.size = [] := List.drop_of_length_le (by rw [tx_len]; exact Nat.le_refl _)
    rw [this]; rfl
  | succ m ih =>
    intro i k hm hi hk
    obtain ⟨k, rfl⟩ : ∃ j, k = j + 1 := ⟨k - 1, by omega⟩
    simp only [cron_zzIndex.l0]
    have e1 : ((mk [c]).size : Int) = 1 := rfl
    have hlt : i < a.size := by omega
    rw [e1, w64 (by omega), if_pos (by omega), if_pos (by omega), if_pos (by omega)]
    have e2 : ((i : Int) + 1).toNat = i + 1 := by omega
    rw [e2, Int.toNat_natCast, tx_toList, tx_toList, tx_mk, tx_extract]
    have hd := tx_drop hlt
    rw [hd, show i + 1 - i = 1 by omega]
    have e3 : (a[i] :: (tx a).drop (i + 1)).take 1 = [a[i]] := rfl
    rw [e3]
    by_cases e : a[i] = c
    · rw [if_pos (by rw [e])]
      unfold fiI fi
      rw [if_pos e]
      rfl
    · rw [if_neg (by simpa using e)]
      have := ih (i + 1) k (by omega) (by omega) (by omega)
      rw [show ((i : Int) + 1) = ((i + 1 : Nat) : Int) by omega, this]
      unfold fiI
      conv => rhs; unfold fi
      rw [if_neg e]
      cases fi c ((tx a).drop (i + 1)) with
      | none => rfl
      | some j => simp only [Option.map_some]; congr 1; omega
theorem index_f (a : ByteArray) (c : UInt8) (hs : a.size < 1099511627776) (k : Nat) (hk : a.size < k) : cron_zzIndex.f k a (mk [c]) = some (fiI c (tx a) 0) := by
  have := index_l0 a c hs a.size 0 k (by omega) (by omega) hk
  simpa [cron_zzIndex.f] using this
theorem split_l0 (c : UInt8) : ∀ (m : Nat) (a : ByteArray) (acc : List ByteArray) (k : Nat), a.size ≤ m → m + acc.length < 1099511627776 → m + 1 < k → cron_zzSplit.l0 k a (mk [c]) acc = some (acc ++ (pieces c (tx a)).map mk) := by
  intro m
  induction m with
  | zero =>
    intro a acc k hm hl hk
    obtain ⟨k, rfl⟩ : ∃ j, k = j + 1 := ⟨k - 1, by omega⟩
    simp only [cron_zzSplit.l0]
    rw [index_f a c (by omega) k (by omega)]
    simp only [Option.bind_some]
    have h0 : tx a = [] := List.eq_nil_of_length_eq_zero (by rw [tx_len]; omega)
    rw [h0]
    have e : fiI c [] 0 = -1 := rfl
    rw [e, if_pos (by decide), if_pos (by omega)]
    have : a = mk [] := tx_inj (by rw [h0]; rfl)
    rw [this]; rfl
  | succ m ih =>
    intro a acc k hm hl hk
    obtain ⟨k, rfl⟩ : ∃ j, k = j + 1 := ⟨k - 1, by omega⟩
    simp only [cron_zzSplit.l0]
    rw [index_f a c (by omega) k (by omega)]
    simp only [Option.bind_some]
    cases hf : fi c (tx a) with
    | none =>
      have e : fiI c (tx a) 0 = -1 := by unfold fiI; rw [hf]
      rw [e, if_pos (by decide), if_pos (by omega), fi_none hf]
      rw [List.map_cons, List.map_nil, mk_tx]
    | some i =>
      have e : fiI c (tx a) 0 = (i : Int) := by unfold fiI; rw [hf]; simp
      obtain ⟨h1, h2⟩ := fi_some hf
      rw [tx_len] at h1
      have e1 : ((mk [c]).size : Int) = 1 := rfl
      rw [e, e1, if_neg (by omega), if_pos (by omega), if_pos (by omega), if_pos (by omega), w64 (by omega), if_pos (by omega), if_pos (by omega)]
      rw [show ((i : Int) + 1).toNat = i + 1 by omega, Int.toNat_natCast]
      have hsz : (a.extract (i + 1) a.size).size ≤ m := by simp; omega
      rw [ih _ _ k hsz (by simp; omega) (by omega), h2, tx_all]
      have ht : a.extract 0 i = mk ((tx a).take i) := tx_inj (by rw [tx_mk, tx_extract]; simp)
      rw [ht]
      simp
theorem split_f (a : ByteArray) (c : UInt8) (hs : a.size < 1099511627775) (k : Nat) (hk : a.size + 1 < k) : cron_zzSplit.f k a (mk [c]) = some ((pieces c (tx a)).map mk) := by
  have := split_l0 c a.size a [] k (Nat.le_refl _) (by simpa using (by omega : a.size < 1099511627776)) hk
  simpa [cron_zzSplit.f] using this
theorem tSplit (a : ByteArray) (c : UInt8) (hs : a.size < 1099511627775) (w : World) : Calls Tryz.prog 115 #[.string a, .string (mk [c])] w fun e w' =>
    ∃ g cp, e = .returned (.slice (some ⟨g, 0, none⟩) (pieces c (tx a)).length cp) ∧ w.heap.size ≤ g ∧ Strs w' g ((pieces c (tx a)).map mk) ∧ Below w.heap.size w w' :=
  (cron_zzSplit.calls (a.size + 2) a _ _ w (split_f a c hs _ (by omega))).mono fun e w' ⟨v, he, ho, hb⟩ => by
    obtain ⟨g, cp, hv, hg, hst⟩ := Strs.of_R ho (by rw [List.length_map]; exact List.length_pos_iff.2 (pieces_ne c (tx a)))
    rw [List.length_map] at hv
    exact ⟨g, cp, by rw [he, hv], hg, hst, hb⟩
end Go.Proofs.YtjmgebhjkbcpcaaGreatDoor.Txt
end
section
set_option linter.unusedVariables false
set_option linter.unusedSimpArgs false
/- append(b, s...) onto a row of the call's own -/
namespace Go.Proofs.YtjmgebhjkbcpcaaGreatDoor.Txt
open Go Go.RowKit
theorem setCells_row {w : World} {g o : Nat} {cur : Array Value} {t : TypeId} : ∀ (news : List Value) (o : Nat) (w : World) (cur : Array Value), w.heap[g]? = some (.cells cur t (0, 0)) → o + news.length ≤ cur.size →
    (w.setCells g o news).heap[g]? = some (.cells (cur.toList.take o ++ news ++ cur.toList.drop (o + news.length)).toArray t (0, 0))
  | [], o, w, cur, h, _ => by
    rw [World.setCells]
    rw [h]
    simp
  | u :: r, o, w, cur, h, hl => by
    rw [World.setCells]
    have h2 := heap_setCell_same w g o cur t u h
    have ho : o < cur.size := by simp at hl; omega
    rw [setCells_row (w := w) (o := o) (cur := cur) r (o + 1) _ _ h2 (by simp at hl ⊢; omega)]
    congr 3
    simp only [Array.toList_setIfInBounds]
    have e1 : (cur.toList.set o u).take (o + 1) = cur.toList.take o ++ [u] := by
      rw [List.take_add_one, List.take_set_of_le (Nat.le_refl _)]
      simp [ho]
    have e2 : (cur.toList.set o u).drop (o + 1 + r.length) = cur.toList.drop (o + 1 + r.length) := List.drop_set_of_lt (by omega)
    rw [e1, e2]
    simp
    congr 1
    omega
theorem setCells_grown (g : Nat) : ∀ (vs : List Value) (o : Nat) (w : World), w.grownBy (w.setCells g o vs) (some g)
  | [], _, w => ⟨rfl, rfl, rfl, Nat.le_refl _, fun _ _ _ => rfl⟩
  | v :: r, o, w => by
    have h := setCells_grown g r (o + 1) (w.setCell ⟨g, o, none⟩ v)
    rw [World.setCells]
    refine ⟨h.os, h.tape, h.output, by have := h.size; simpa using this, fun k hk hne => ?_⟩
    rw [h.block k (by simpa using hk) hne]
    exact heap_setCell_other _ _ _ _ (fun e => hne (by rw [e]))
theorem run_append_str {P : Program} (w : World) (base : Nat) (t tx ty e : TypeId) (i : TypeInfo) (z : Value) (ht : P.underlying t = some (.slice e)) (hx : P.underlying tx = some .string) (hi : P.info? e = some i) (hz : i.zero = some z)
    (hsize : i.size = 1) (hby : i.bytes = 1) (hzs : z.cells.size = 1)
    (v : Value) (n : Nat) (xs : List Value) (hown : w.ownsRow base e 1 v n xs) (s : ByteArray) (hs : 0 < s.size)
    (h63 : n + s.size ≤ maxLen) (hbytes : n + s.size ≤ 140737488355328) (hbase : base ≤ w.heap.size) :
    ∃ v' w', (Builtin.append_ #[t, tx] ty #[v, .string s]).run P w = .ok v' w' ∧ w'.ownsRow base e 1 v' (n + s.size) (xs ++ byteCells s) ∧ w.grownBy w' v.ownBlock := by
  have hsmall : n + s.size ≤ 9223372036854775807 := by simp only [maxLen] at h63; omega
  have hl := byteCells_length s
  have hlen : (xs ++ byteCells s).length = (n + s.size) * 1 := by rw [List.length_append, hown.1, hl]; omega
  have hsrc : Src P i.size tx (.string s) s.size (byteCells s) w := by rw [hsize]; exact Src.ofString w hx s
  have grown : ∀ (old : Nat), old < n + s.size → ∀ (row : Option Nat),
      (w.drew.alloc (.cells ((xs ++ byteCells s).toArray ++ Builtin.zeroCells z.cells (grownCap w (n + s.size) old e - (n + s.size))) e)).ownsRow base e 1
        (.slice (some ⟨w.heap.size, 0, none⟩) (n + s.size) (grownCap w (n + s.size) old e)) (n + s.size) (xs ++ byteCells s) ∧
      w.grownBy (w.drew.alloc (.cells ((xs ++ byteCells s).toArray ++ Builtin.zeroCells z.cells (grownCap w (n + s.size) old e - (n + s.size))) e)) row := by
    intro old ho row
    have hge := grownCap_ge w (n + s.size) old e
    have hcm : grownCap w (n + s.size) old e ≤ maxLen := grownCap_le_maxLen w (n + s.size) old e h63
    refine ⟨⟨hlen, .inr ⟨w.heap.size, _, _, rfl, hbase, heap_alloc_new w.drew _, hge, hcm, ?_, ?_⟩⟩, ⟨rfl, rfl, rfl, by simp, fun k hk _ => Below.heap_alloc w.drew _ k hk⟩⟩
    · simp only [Array.size_append, List.size_toArray, size_zeroCells, hzs, hlen]
      omega
    · simp only [Array.toList_append]
      rw [← hlen]
      exact List.take_left
  rcases hown.2 with ⟨rfl, rfl⟩ | ⟨g, cap, cur, rfl, hbg, hg, hnc, hcm, hcs, htake⟩
  · have hx0 : xs = [] := List.eq_nil_of_length_eq_zero (by simpa using hown.1)
    subst hx0
    have hr := run_append_grow_src (P := P) w t tx ty e i z ht hi hz none 0 0 [] (run_firstCells_none w.drew i.size 0 0 0) (.string s) s.size (byteCells s) hsrc (by omega) (by omega) (by rw [hby]; have := growslice_fits (need := 0 + s.size) (old := 0) (bytes := 1) (by omega) (by omega); simpa using this)
    have hgr := grown 0 (by omega) (Value.ownBlock (.slice none 0 0))
    simp only [Nat.zero_add, List.nil_append] at hgr hr ⊢
    exact ⟨_, _, hr, hgr.1, hgr.2⟩
  · by_cases hroom : n + s.size ≤ cap
    · have hr := run_append_room_src (P := P) w t tx ty e i ht hi g 0 n cap (.string s) s.size (byteCells s) hsrc hroom
        (fun j hj => by rw [cell_of_row _ _ _ _ _ _ hg, hsize]; rw [hl] at hj; simp; omega) (fun j hj => frozen_of_row _ _ _ _ _ hg)
      rw [hsize, Nat.zero_add, Nat.mul_one] at hr
      refine ⟨_, _, hr, ⟨hlen, .inr ⟨g, cap, _, rfl, hbg, setCells_row (w := w) (o := n) (cur := cur) (byteCells s) n w cur hg (by rw [hl]; omega), hroom, hcm, ?_, ?_⟩⟩, setCells_grown g (byteCells s) n w⟩
      · simp [hl]; omega
      · rw [Nat.mul_one] at htake ⊢
        rw [htake]
        have : (xs ++ byteCells s).length = n + s.size := by omega
        rw [← this]
        exact List.take_left
    · have holds : ∀ j u, xs[j]? = some u → w.drew.cell? ((⟨g, 0, none⟩ : Addr).add j) = some u := fun j u h => by simpa using hown.cells (g := g) rfl j u h
      have hr := run_append_grow_src (P := P) w t tx ty e i z ht hi hz (some ⟨g, 0, none⟩) n cap xs (by have := run_firstCells_some (P := P) w.drew i.size n ⟨g, 0, none⟩ n cap xs (by rw [hsize]; exact hown.1) holds; exact this) (.string s) s.size (byteCells s) hsrc (by omega) (by omega) (by rw [hby]; exact growslice_fits (by omega) (by omega))
      have hgr := grown cap (by omega) (Value.ownBlock (.slice (some ⟨g, 0, none⟩) n cap))
      exact ⟨_, _, hr, hgr.1, hgr.2⟩
theorem wpList_append_str {P : Program} (w : World) {ops : Array Oper} {rest : List Oper} {o : Oper} {a : Act} {Q : Exit → Act → World → Prop} (hgd : o.guard = none) (s x : Operand) (t tx : TypeId)
    (ho : o.op = .call { callee := .builtin .append, args := #[s, x], argTypes := #[t, tx] })
    (base : Nat) (e : TypeId) (i : TypeInfo) (z : Value) (ht : P.underlying t = some (.slice e)) (hx : P.underlying tx = some .string) (hi : P.info? e = some i) (hz : i.zero = some z)
    (hsize : i.size = 1) (hby : i.bytes = 1) (hzs : z.cells.size = 1)
    (v : Value) (n : Nat) (xs : List Value) (hs : a.eval s = v) (hown : w.ownsRow base e 1 v n xs) (str : ByteArray) (hxs : a.eval x = .string str) (hpos : 0 < str.size)
    (h63 : n + str.size ≤ maxLen) (hbytes : n + str.size ≤ 140737488355328) (hbase : base ≤ w.heap.size)
    (h : ∀ v' w', w'.ownsRow base e 1 v' (n + str.size) (xs ++ byteCells str) → w.grownBy w' v.ownBlock → wpList P ops Q rest (a.put o.dst v') w') : wpList P ops Q (o :: rest) a w :=
  wpList_plain hgd fun _ hK => by
    obtain ⟨v', w', hr, h2, h3⟩ := run_append_str (P := P) w base t tx o.type e i z ht hx hi hz hsize hby hzs v n xs hown str hpos h63 hbytes hbase
    unfold Oper.wp execOp
    simp only [ho, resolve, invoke, builtin, Sem.run_bind, Sem.run_pure, Result.andThen_ok, List.map_toArray, List.map_cons, List.map_nil, hs, hxs, hr]
    exact hK _ _ (h v' w' h2 h3)
end Go.Proofs.YtjmgebhjkbcpcaaGreatDoor.Txt
end
section
set_option linter.unusedVariables false
set_option linter.unusedSimpArgs false
namespace Go.Proofs.YtjmgebhjkbcpcaaGreatDoor.Txt
open Go.Proofs.YtjmgebhjkbcpcaaGreatDoor.NM
open Go Go.RowKit Go.Lib Go.Proofs.YtjmgebhjkbcpcaaGreatDoorW.PrintWords
set_option maxRecDepth 100000
def lo (x : UInt8) : UInt8 := if 65 ≤ x && x ≤ 90 then x + 32 else x
def bc (l : Bs) : List Value := l.map fun b => Value.int .u8 b.toNat
theorem info5 : (Tryz.prog.info? 5).map (fun i => (i.zero, i.size, i.bytes)) = some (some (.int .u8 0), 1, 1) := by kernel_rfl
theorem und215 : Tryz.prog.underlying 215 = some (.slice 5) := by kernel_rfl
theorem und5 : Tryz.prog.underlying 5 = some (.int .u8) := by kernel_rfl
theorem und9' : Tryz.prog.underlying 9 = some .string := by kernel_rfl
theorem encode_ascii (x : UInt8) (h : x < 128) : Utf8.encode (x.toNat : Int) = ⟨#[x]⟩ := by
  have h2 : x.toNat < 128 := h
  have hv : Utf8.valid (x.toNat : Int) = true := by simp [Utf8.valid]; omega
  unfold Utf8.encode
  simp only [hv, if_true, Int.toNat_natCast]
  rw [if_pos h2]
  simp
theorem lo_up (c : UInt8) (h1 : 65 ≤ c.toNat) (h2 : c.toNat ≤ 90) : ((lo c).toNat : Int) = (c.toNat : Int) - 65 + 97 := by
  have a1 : (65 : UInt8) ≤ c := h1
  have a2 : c ≤ (90 : UInt8) := h2
  unfold lo
  rw [if_pos (by simp [a1, a2])]
  have : (c + 32).toNat = c.toNat + 32 := by
    rw [UInt8.toNat_add]
    have : (32 : UInt8).toNat = 32 := rfl
    omega
  rw [this]; omega
theorem lo_no (c : UInt8) (h : ¬ (65 ≤ c.toNat ∧ c.toNat ≤ 90)) : lo c = c := by
  unfold lo
  rw [if_neg]
  intro h'
  simp at h'
  exact h ⟨h'.1, h'.2⟩
theorem tLower (a : ByteArray) (ha : ∀ x ∈ tx a, x < 128) (hs : a.size < 1099511627776) (w : World) :
    Calls Tryz.prog 128 #[.string a] w fun e w' => e = .returned (.string (mk ((tx a).map lo))) ∧ Below w.heap.size w w' := by
  obtain ⟨i0, hi, hz0, hz1, hz2⟩ := info_parts info5
  have HI := Lib.hid (And.intro hi (And.intro hz0 (And.intro hz1 hz2)))
  have HA := Lib.hid ha
  clear ha hi hz0 hz1 hz2
  go_enter Tryz.func128, Tryz.ntmps128
  go_wp2
  go_loopg [3] a.size (fun gf s3 wx => ∃ (pos : Nat), Aside0 (pos + gf = a.size) ∧ Aside0 (wx.ownsRow w.heap.size 5 1 s3 pos (bc (((tx a).take pos).map lo))) ∧ Aside0 (wx.heap[w.heap.size]? = some (.stringIter a pos)) ∧ Aside0 (Below w.heap.size w wx))
  case atStart => exact ⟨0, ⟨by omega⟩, ⟨World.ownsRow_nil _ _ _ _⟩, ⟨World.iter_heap w a 0⟩, ⟨bA (Below.refl _ _) _⟩⟩
  case round =>
    obtain ⟨pos, HP, HO, HT, HB⟩ := hrel
    by_cases hlt : pos < a.size
    · obtain ⟨g', rfl⟩ : ∃ g', gk = g' + 1 := ⟨gk - 1, by have := HP.out; omega⟩
      have hnx : ∀ ty, (Instr.next (.pointer (some ⟨w.heap.size, 0, none⟩)) true ty).run Tryz.prog wr = _ := fun ty => Lib.run_next_ascii_at wr w.heap.size a pos ty HT.out hlt (by have := HA.out a[pos] (List.getElem_mem (l := tx a) (by rw [tx_len]; exact hlt)); exact this)
      obtain ⟨c, hc⟩ : ∃ c, a[pos] = c := ⟨_, rfl⟩
      rw [hc] at hnx
      have hc128 : c < 128 := by rw [← hc]; exact HA.out _ (List.getElem_mem (l := tx a) (by rw [tx_len]; exact hlt))
      have hcn : c.toNat < 128 := hc128
      have hit2 := Lib.iterAt_heap wr w.heap.size a pos (pos + 1) HT.out
      have hbw2 := Lib.below_iterAt HB.out (k := w.heap.size) (Nat.le_refl _) a (pos + 1)
      have hown2 := Go.Proofs.own_iterAt HO.out HT.out (pos + 1)
      have htk : bc (((tx a).take (pos + 1)).map lo) = bc (((tx a).take pos).map lo) ++ [.int .u8 (lo c).toNat] := by
        have : (tx a)[pos]? = some c := by rw [List.getElem?_eq_getElem (by rw [tx_len]; exact hlt)]; exact congrArg some hc
        rw [List.take_add_one, this]
        simp [bc]
      obtain ⟨W, hWd⟩ : ∃ W, wr.iterAt w.heap.size a (pos + 1) = W := ⟨_, rfl⟩
      rw [hWd] at hnx hit2 hbw2 hown2
      have H1 := Lib.hid hit2
      have H2 := Lib.hid hbw2
      have H3 := Lib.hid hown2
      have H4 := Lib.hid htk
      clear hc hc128 hit2 hbw2 hown2 htk hWd
      by_cases cu : 65 ≤ c.toNat ∧ c.toNat ≤ 90
      · have t1 : decide ((65 : Int) ≤ (c.toNat : Int)) = true := decide_eq_true (by omega)
        have t2 : decide ((c.toNat : Int) ≤ 90) = true := decide_eq_true (by omega)
        have hlo := lo_up c cu.1 cu.2
        have HLO := Lib.hid hlo
        have hpb : pos < 1099511627776 := by omega
        clear hlo cu
        go_wp2_with ((with_reducible refine wpList_append_own (o := ⟨some 28, _, _, _, _, _⟩) _ ?h1 (.tmp 22) (.tmp 27) 215 ?h2 w.heap.size 5 i0 (.int .u8 0) 1 1 und215 HI.out.1 HI.out.2.1 HI.out.2.2.1 HI.out.2.2.2 rfl (by decide) _ pos _ ?h3 (H3.out.alloc _) ⟨W.heap.size, 0, none⟩ 1 1 [.int .u8 ((c.toNat : Int) - 65 + 97)] ?h4 rfl ?h5 ?h6 ?h7 ?h8 ?h9 ?_); (case h1 => rfl); (case h2 => rfl); (case h3 => rfl); (case h4 => rfl); (case h5 => exact cell_one_new _ _ _); (case h6 => (intro u hu; simp at hu; rw [hu]; rfl)); (case h7 => (unfold maxLen; omega)); (case h8 => omega); (case h9 => (simp; have := H2.out.size; omega)); intro v' w' ho' hg' _; have H5 := Lib.hid ho'; have H6 := Lib.hid hg'; clear ho' hg')
        go_roundg g'
        case measure => omega
        case rel =>
          refine ⟨pos + 1, ⟨by have := HP.out; omega⟩, ⟨?_⟩, ⟨?_⟩, ⟨?_⟩⟩
          · rw [H4.out, HLO.out]; exact H5.out
          · rw [H6.out.block _ (by simp; have := (Array.getElem?_eq_some_iff.1 H1.out).1; omega) (Go.Proofs.own_ne_iter H3.out H1.out), Below.heap_alloc _ _ _ (Array.getElem?_eq_some_iff.1 H1.out).1]; exact H1.out
          · exact Below.grown (H2.out.alloc H2.out.size _) H6.out (by simp; have := H2.out.size; omega) (fun k hk => (H3.out.lt k hk).1)
      · have hlo := lo_no c cu
        have HLO := Lib.hid hlo
        have hpb : pos < 1099511627776 := by omega
        have hen := encode_ascii c hcn
        have t3 : ((c.toNat : Int) == 304) = false := by simp; omega
        have t4 : ((c.toNat : Int) == 8490) = false := by simp; omega
        have hb1 : byteCells ⟨#[c]⟩ = [.int .u8 c.toNat] := rfl
        have HB1 := Lib.hid hb1
        clear hlo hb1
        by_cases c65 : (65 : Int) ≤ (c.toNat : Int)
        · have t1 : decide ((65 : Int) ≤ (c.toNat : Int)) = true := decide_eq_true c65
          have t2 : decide ((c.toNat : Int) ≤ 90) = false := decide_eq_false (by omega)
          clear cu
          go_wp2_with ((with_reducible refine wpList_append_str (o := ⟨some 14, _, _, _, _, _⟩) _ ?h1 (.tmp 11) (.tmp 13) 215 9 ?h2 w.heap.size 5 i0 (.int .u8 0) und215 und9' HI.out.1 HI.out.2.1 HI.out.2.2.1 HI.out.2.2.2 rfl _ pos _ ?h3 H3.out ⟨#[c]⟩ ?h4 ?h5 ?h7 ?h8 ?h9 ?_); (case h1 => rfl); (case h2 => rfl); (case h3 => rfl); (case h4 => rfl); (case h5 => exact Nat.zero_lt_one); (case h7 => (show pos + 1 ≤ maxLen; unfold maxLen; omega)); (case h8 => (show pos + 1 ≤ _; omega)); (case h9 => exact H2.out.size); intro v' w' ho' hg'; have H5 := Lib.hid ho'; have H6 := Lib.hid hg'; clear ho' hg')
          go_roundg g'
          case measure => omega
          case rel =>
            refine ⟨pos + 1, ⟨by have := HP.out; omega⟩, ⟨?_⟩, ⟨?_⟩, ⟨?_⟩⟩
            · rw [H4.out, HLO.out, ← HB1.out]; exact H5.out
            · rw [H6.out.block _ (by exact (Array.getElem?_eq_some_iff.1 H1.out).1) (Go.Proofs.own_ne_iter H3.out H1.out)]; exact H1.out
            · exact Below.grown H2.out H6.out (by exact H2.out.size) (fun k hk => (H3.out.lt k hk).1)
        · have t1 : decide ((65 : Int) ≤ (c.toNat : Int)) = false := decide_eq_false c65
          clear cu
          go_wp2_with ((with_reducible refine wpList_append_str (o := ⟨some 14, _, _, _, _, _⟩) _ ?h1 (.tmp 11) (.tmp 13) 215 9 ?h2 w.heap.size 5 i0 (.int .u8 0) und215 und9' HI.out.1 HI.out.2.1 HI.out.2.2.1 HI.out.2.2.2 rfl _ pos _ ?h3 H3.out ⟨#[c]⟩ ?h4 ?h5 ?h7 ?h8 ?h9 ?_); (case h1 => rfl); (case h2 => rfl); (case h3 => rfl); (case h4 => rfl); (case h5 => exact Nat.zero_lt_one); (case h7 => (show pos + 1 ≤ maxLen; unfold maxLen; omega)); (case h8 => (show pos + 1 ≤ _; omega)); (case h9 => exact H2.out.size); intro v' w' ho' hg'; have H5 := Lib.hid ho'; have H6 := Lib.hid hg'; clear ho' hg')
          go_roundg g'
          case measure => omega
          case rel =>
            refine ⟨pos + 1, ⟨by have := HP.out; omega⟩, ⟨?_⟩, ⟨?_⟩, ⟨?_⟩⟩
            · rw [H4.out, HLO.out, ← HB1.out]; exact H5.out
            · rw [H6.out.block _ (by exact (Array.getElem?_eq_some_iff.1 H1.out).1) (Go.Proofs.own_ne_iter H3.out H1.out)]; exact H1.out
            · exact Below.grown H2.out H6.out (by exact H2.out.size) (fun k hk => (H3.out.lt k hk).1)
    · have hpe : pos = a.size := by have := HP.out; omega
      have hnx : ∀ ty, (Instr.next (.pointer (some ⟨w.heap.size, 0, none⟩)) true ty).run Tryz.prog wr = _ := fun ty => Lib.run_next_end_at wr w.heap.size a pos ty HT.out hlt
      have hall : ((tx a).take pos).map lo = (tx a).map lo := by rw [hpe, List.take_of_length_le (by rw [tx_len]; exact Nat.le_refl _)]
      have ho := HO.out
      rw [hall] at ho
      obtain ⟨L, hL⟩ : ∃ L, (tx a).map lo = L := ⟨_, rfl⟩
      have hLl : L.length = pos := by rw [← hL, List.length_map, tx_len, hpe]
      rw [hL] at ho
      have HL := Lib.hid hL
      clear hL hall hpe
      rcases ho.2 with ⟨rfl, h0⟩ | ⟨g, cap, cur, rfl, hbg, hg, hnc, hcm, hcs, htake⟩
      · have hcv := Lib.run_convert_nil_bytes (P := Tryz.prog) wr 215 9 5 0 und215 und5 und9'
        have hLn : L = [] := List.eq_nil_of_length_eq_zero (by rw [hLl, h0])
        have HLN := Lib.hid hLn
        clear hLn hLl h0 ho
        go_wp2
        go_ret
        exact ⟨by rw [HL.out, HLN.out]; rfl, HB.out⟩
      · have hby : Lib.Bytes wr g 0 (mk L) := fun i hi => by
          have hi' : i < L.length := by simpa [mk_size] using hi
          rw [cell_of_row _ _ _ _ _ _ hg]
          have e1 : (cur.toList.take (pos * 1))[i]? = cur.toList[i]? := by rw [List.getElem?_take_of_lt (by omega)]
          rw [htake] at e1
          have e2 : (bc L)[i]? = some (.int .u8 (L[i].toNat : Int)) := by simp [bc, hi']
          rw [e2] at e1
          rw [Nat.zero_add, ← Array.getElem?_toList, ← e1]
          rfl
        have hcv := Lib.run_convert_whole (P := Tryz.prog) wr 215 5 9 und215 und5 und9' g 0 (mk L) hby cap
        rw [mk_size, hLl] at hcv
        clear hby ho hg htake hcs
        go_wp2
        go_ret
        exact ⟨by rw [HL.out]; rfl, HB.out⟩
end Go.Proofs.YtjmgebhjkbcpcaaGreatDoor.Txt
end
section
set_option linter.unusedVariables false
set_option linter.unusedSimpArgs false
namespace Go.Proofs.YtjmgebhjkbcpcaaGreatDoor.Txt
open Go.Proofs.YtjmgebhjkbcpcaaGreatDoor.NM
open Go Go.RowKit Go.Proofs.YtjmgebhjkbcpcaaGreatDoorW.PrintWords
set_option maxRecDepth 100000
def U64 (b : Int) : Prop := 0 ≤ b ∧ b < 18446744073709551616
theorem bits_u64 (op : BinOp) (a b : Int) : U64 (bits op .u64 a b) := by
  have := wf_bits op .u64 a b
  simp [Lit.wf, IntKind.min, IntKind.max, IntKind.signed, IntKind.bits] at this
  unfold U64
  omega
def orL : Nat → Nat → Nat → Nat → Int → Int
  | 0, _, _, _, a => a
  | f + 1, h, k, n, a => if n ≤ h then orL f h k (n + k) (bits .or .u64 a (IntKind.u64.wrap (2 ^ n))) else a
theorem orL_end (f h k n : Nat) (a : Int) (hn : ¬ n ≤ h) : orL f h k n a = a := by
  cases f with
  | zero => rfl
  | succ f => unfold orL; rw [if_neg hn]
/-- the bits of low, low + step .. up to high -/
def gbits (l h k : Nat) : Int := if k = 1 then bits .and .u64 (bits .xor .u64 IntKind.u64.max (IntKind.u64.wrap (18446744073709551615 * 2 ^ (h + 1)))) (IntKind.u64.wrap (18446744073709551615 * 2 ^ l)) else orL 100 h k l 0
theorem tBits (l h k : Nat) (hl : l ≤ 60) (hh : h ≤ 60) (hk : 0 < k) (hk2 : k ≤ 1099511627776) (w : World) : Calls Tryz.prog 110 #[.int .u64 l, .int .u64 h, .int .u64 k] w fun e w' => e = .returned (.int .u64 (gbits l h k)) ∧ Below w.heap.size w w' := by
  by_cases c1 : k = 1
  · subst c1
    go_enter Tryz.func110, Tryz.ntmps110
    go_wp2
    go_ret
    refine ⟨?_, Below.refl _ _⟩
    unfold gbits
    rw [if_pos rfl]
    rfl
  · have q1 : ((k : Int) == 1) = false := by simp; omega
    obtain ⟨R, hR⟩ : ∃ R, orL 100 h k l 0 = R := ⟨_, rfl⟩
    have hg : gbits l h k = R := by unfold gbits; rw [if_neg c1, hR]
    rw [hg]
    have HR := Lib.hid hR
    clear hR hg c1
    go_enter Tryz.func110, Tryz.ntmps110
    go_wp2
    go_loopw [7, 8] (fun b i wr => ∃ (n : Nat) (a : Int) (f : Nat), b = .int .u64 a ∧ i = .int .u64 n ∧ Aside0 (orL f h k n a = R ∧ h < n + f) ∧ Aside0 (Below w.heap.size w wr)) (fun _ i _ => 100 - (intOf i).toNat)
    case atStart => exact ⟨l, 0, 100, rfl, rfl, ⟨HR.out, by omega⟩, ⟨Below.refl _ _⟩⟩
    case round =>
      obtain ⟨n, a, f, rfl, rfl, HO, HB⟩ := hrel
      by_cases c : (n : Int) ≤ (h : Int)
      · have ct : decide ((n : Int) ≤ (h : Int)) = true := decide_eq_true c
        go_wp2
        go_roundw
        case measure => simp [intOf]; omega
        case rel =>
          obtain ⟨ho, hf⟩ := HO.out
          obtain ⟨f', rfl⟩ : ∃ f', f = f' + 1 := ⟨f - 1, by omega⟩
          unfold orL at ho
          rw [if_pos (by omega)] at ho
          exact ⟨n + k, _, f', rfl, by go_num, ⟨ho, by omega⟩, ⟨HB.out⟩⟩
      · have ct : decide ((n : Int) ≤ (h : Int)) = false := decide_eq_false c
        have he := orL_end f h k n a (by omega)
        have hR2 := HO.out.1
        rw [he] at hR2
        have H2 := Lib.hid hR2
        clear he hR2
        go_wp2
        go_ret
        exact ⟨by rw [← H2.out]; rfl, HB.out⟩
end Go.Proofs.YtjmgebhjkbcpcaaGreatDoor.Txt
end
