/- a part of the proof: FnSemverBroken: for every list of lists of terms, every style and every byte the law's function returns true and leaves its arguments as they were. No condition is added: the statement is the given one, the tied card. -/
import Derived.Handy
import Derived.Deep.RegionHeld3
import Derived.Laws.CopyOwn
import Derived.Test.YthejepmnnpmdmaaGreatDoorNC
import Derived.Test.YthejepmnnpmdmaaGreatDoorNA
import Derived.Deep.OwnRows
import Derived.Deep.Cut
import Derived.Test.YthejepmnnpmdmaaGreatDoorNB
import Derived.Deep.Upon
import Derived.Scope
import Derived.Deep.LoopGhost
section
set_option linter.unusedVariables false
set_option linter.unusedSimpArgs false
/- the search with a stack of jobs: tryBacktrack -/
namespace Go.Proofs.YthejepmnnpmdmaaGreatDoor.Sv
open Go Go.RowKit Rx
set_option maxRecDepth 100000
/-- the search's surroundings -/
def envOf (T : List I) (s : ByteArray) : Env := ⟨tabP T, stepB s, fun p a => if a = 4 then decide (p = 0) else if a = 8 then decide (p = s.size) else false⟩
structure Ctx (w0 w : World) (base R PB IB icap : Nat) (T : List I) (s : ByteArray) : Prop where
  size : w0.heap.size = base
  pg : PG w0 R PB IB icap T
  tabs : Lib.Utf8Tabs 11 12 w0
  below : Below base w0 w
  tab : TabOk T
  len : s.size ≤ 1000000
  ok : Rx.Ok (envOf T s) s.size
  emp : ∀ (i o a : Nat), T[i]? = some (.emp o a) → a = 4 ∨ a = 8
theorem Ctx.go {w0 w w' : World} {base R PB IB icap : Nat} {T : List I} {s : ByteArray} (h : Ctx w0 w base R PB IB icap T s) (hb : Below base w w') : Ctx w0 w' base R PB IB icap T s := ⟨h.size, h.pg, h.tabs, h.below.trans hb, h.tab, h.len, h.ok, h.emp⟩
theorem Ctx.prog {w0 w : World} {base R PB IB icap : Nat} {T : List I} {s : ByteArray} (h : Ctx w0 w base R PB IB icap T s) : PG w R PB IB icap T := h.pg.keep (by rw [h.size]; exact h.below)
/-- the state at a step of the search -/
structure At (w0 w wr : World) (base R PB IB icap B CB MB VB vn nc : Nat) (T : List I) (s : ByteArray) (M : List Int) (k : Nat) (c f : Cfg) : Prop where
  ctx : Ctx w0 wr base R PB IB icap T s
  good : Rx.Good T s.size nc c
  steps : Rx.Steps (envOf T s) k c f
  bs : BS wr base B CB MB VB vn T.length s c.jobs.reverse c.vis c.cap M
  below : Below base w wr
/-- a slot -/
def sel (xs : List Value) (i : Nat) : Value := xs.getD i undef
theorem map_sel (xs : List Value) (n : Nat) (h : xs.length = n) : xs = (List.range n).map (sel xs) := by
  apply List.ext_getElem
  · simp [h]
  · intro i h1 h2
    simp [sel, List.getD, h1]
theorem lit401 (f : Nat → Value) : (List.range 401).map f = [f 0, f 1, f 2, f 3, f 4, f 5, f 6, f 7, f 8, f 9, f 10, f 11, f 12, f 13, f 14, f 15, f 16, f 17, f 18, f 19, f 20, f 21, f 22, f 23, f 24, f 25, f 26, f 27, f 28, f 29, f 30, f 31, f 32, f 33, f 34, f 35, f 36, f 37, f 38, f 39, f 40, f 41, f 42, f 43, f 44, f 45, f 46, f 47, f 48, f 49, f 50, f 51, f 52, f 53, f 54, f 55, f 56, f 57, f 58, f 59, f 60, f 61, f 62, f 63, f 64, f 65, f 66, f 67, f 68, f 69, f 70, f 71, f 72, f 73, f 74, f 75, f 76, f 77, f 78, f 79, f 80, f 81, f 82, f 83, f 84, f 85, f 86, f 87, f 88, f 89, f 90, f 91, f 92, f 93, f 94, f 95, f 96, f 97, f 98, f 99, f 100, f 101, f 102, f 103, f 104, f 105, f 106, f 107, f 108, f 109, f 110, f 111, f 112, f 113, f 114, f 115, f 116, f 117, f 118, f 119, f 120, f 121, f 122, f 123, f 124, f 125, f 126, f 127, f 128, f 129, f 130, f 131, f 132, f 133, f 134, f 135, f 136, f 137, f 138, f 139, f 140, f 141, f 142, f 143, f 144, f 145, f 146, f 147, f 148, f 149, f 150, f 151, f 152, f 153, f 154, f 155, f 156, f 157, f 158, f 159, f 160, f 161, f 162, f 163, f 164, f 165, f 166, f 167, f 168, f 169, f 170, f 171, f 172, f 173, f 174, f 175, f 176, f 177, f 178, f 179, f 180, f 181, f 182, f 183, f 184, f 185, f 186, f 187, f 188, f 189, f 190, f 191, f 192, f 193, f 194, f 195, f 196, f 197, f 198, f 199, f 200, f 201, f 202, f 203, f 204, f 205, f 206, f 207, f 208, f 209, f 210, f 211, f 212, f 213, f 214, f 215, f 216, f 217, f 218, f 219, f 220, f 221, f 222, f 223, f 224, f 225, f 226, f 227, f 228, f 229, f 230, f 231, f 232, f 233, f 234, f 235, f 236, f 237, f 238, f 239, f 240, f 241, f 242, f 243, f 244, f 245, f 246, f 247, f 248, f 249, f 250, f 251, f 252, f 253, f 254, f 255, f 256, f 257, f 258, f 259, f 260, f 261, f 262, f 263, f 264, f 265, f 266, f 267, f 268, f 269, f 270, f 271, f 272, f 273, f 274, f 275, f 276, f 277, f 278, f 279, f 280, f 281, f 282, f 283, f 284, f 285, f 286, f 287, f 288, f 289, f 290, f 291, f 292, f 293, f 294, f 295, f 296, f 297, f 298, f 299, f 300, f 301, f 302, f 303, f 304, f 305, f 306, f 307, f 308, f 309, f 310, f 311, f 312, f 313, f 314, f 315, f 316, f 317, f 318, f 319, f 320, f 321, f 322, f 323, f 324, f 325, f 326, f 327, f 328, f 329, f 330, f 331, f 332, f 333, f 334, f 335, f 336, f 337, f 338, f 339, f 340, f 341, f 342, f 343, f 344, f 345, f 346, f 347, f 348, f 349, f 350, f 351, f 352, f 353, f 354, f 355, f 356, f 357, f 358, f 359, f 360, f 361, f 362, f 363, f 364, f 365, f 366, f 367, f 368, f 369, f 370, f 371, f 372, f 373, f 374, f 375, f 376, f 377, f 378, f 379, f 380, f 381, f 382, f 383, f 384, f 385, f 386, f 387, f 388, f 389, f 390, f 391, f 392, f 393, f 394, f 395, f 396, f 397, f 398, f 399, f 400] := rfl
theorem fr401 (xs : List Value) (h : xs.length = 401) : xs = [sel xs 0, sel xs 1, sel xs 2, sel xs 3, sel xs 4, sel xs 5, sel xs 6, sel xs 7, sel xs 8, sel xs 9, sel xs 10, sel xs 11, sel xs 12, sel xs 13, sel xs 14, sel xs 15, sel xs 16, sel xs 17, sel xs 18, sel xs 19, sel xs 20, sel xs 21, sel xs 22, sel xs 23, sel xs 24, sel xs 25, sel xs 26, sel xs 27, sel xs 28, sel xs 29, sel xs 30, sel xs 31, sel xs 32, sel xs 33, sel xs 34, sel xs 35, sel xs 36, sel xs 37, sel xs 38, sel xs 39, sel xs 40, sel xs 41, sel xs 42, sel xs 43, sel xs 44, sel xs 45, sel xs 46, sel xs 47, sel xs 48, sel xs 49, sel xs 50, sel xs 51, sel xs 52, sel xs 53, sel xs 54, sel xs 55, sel xs 56, sel xs 57, sel xs 58, sel xs 59, sel xs 60, sel xs 61, sel xs 62, sel xs 63, sel xs 64, sel xs 65, sel xs 66, sel xs 67, sel xs 68, sel xs 69, sel xs 70, sel xs 71, sel xs 72, sel xs 73, sel xs 74, sel xs 75, sel xs 76, sel xs 77, sel xs 78, sel xs 79, sel xs 80, sel xs 81, sel xs 82, sel xs 83, sel xs 84, sel xs 85, sel xs 86, sel xs 87, sel xs 88, sel xs 89, sel xs 90, sel xs 91, sel xs 92, sel xs 93, sel xs 94, sel xs 95, sel xs 96, sel xs 97, sel xs 98, sel xs 99, sel xs 100, sel xs 101, sel xs 102, sel xs 103, sel xs 104, sel xs 105, sel xs 106, sel xs 107, sel xs 108, sel xs 109, sel xs 110, sel xs 111, sel xs 112, sel xs 113, sel xs 114, sel xs 115, sel xs 116, sel xs 117, sel xs 118, sel xs 119, sel xs 120, sel xs 121, sel xs 122, sel xs 123, sel xs 124, sel xs 125, sel xs 126, sel xs 127, sel xs 128, sel xs 129, sel xs 130, sel xs 131, sel xs 132, sel xs 133, sel xs 134, sel xs 135, sel xs 136, sel xs 137, sel xs 138, sel xs 139, sel xs 140, sel xs 141, sel xs 142, sel xs 143, sel xs 144, sel xs 145, sel xs 146, sel xs 147, sel xs 148, sel xs 149, sel xs 150, sel xs 151, sel xs 152, sel xs 153, sel xs 154, sel xs 155, sel xs 156, sel xs 157, sel xs 158, sel xs 159, sel xs 160, sel xs 161, sel xs 162, sel xs 163, sel xs 164, sel xs 165, sel xs 166, sel xs 167, sel xs 168, sel xs 169, sel xs 170, sel xs 171, sel xs 172, sel xs 173, sel xs 174, sel xs 175, sel xs 176, sel xs 177, sel xs 178, sel xs 179, sel xs 180, sel xs 181, sel xs 182, sel xs 183, sel xs 184, sel xs 185, sel xs 186, sel xs 187, sel xs 188, sel xs 189, sel xs 190, sel xs 191, sel xs 192, sel xs 193, sel xs 194, sel xs 195, sel xs 196, sel xs 197, sel xs 198, sel xs 199, sel xs 200, sel xs 201, sel xs 202, sel xs 203, sel xs 204, sel xs 205, sel xs 206, sel xs 207, sel xs 208, sel xs 209, sel xs 210, sel xs 211, sel xs 212, sel xs 213, sel xs 214, sel xs 215, sel xs 216, sel xs 217, sel xs 218, sel xs 219, sel xs 220, sel xs 221, sel xs 222, sel xs 223, sel xs 224, sel xs 225, sel xs 226, sel xs 227, sel xs 228, sel xs 229, sel xs 230, sel xs 231, sel xs 232, sel xs 233, sel xs 234, sel xs 235, sel xs 236, sel xs 237, sel xs 238, sel xs 239, sel xs 240, sel xs 241, sel xs 242, sel xs 243, sel xs 244, sel xs 245, sel xs 246, sel xs 247, sel xs 248, sel xs 249, sel xs 250, sel xs 251, sel xs 252, sel xs 253, sel xs 254, sel xs 255, sel xs 256, sel xs 257, sel xs 258, sel xs 259, sel xs 260, sel xs 261, sel xs 262, sel xs 263, sel xs 264, sel xs 265, sel xs 266, sel xs 267, sel xs 268, sel xs 269, sel xs 270, sel xs 271, sel xs 272, sel xs 273, sel xs 274, sel xs 275, sel xs 276, sel xs 277, sel xs 278, sel xs 279, sel xs 280, sel xs 281, sel xs 282, sel xs 283, sel xs 284, sel xs 285, sel xs 286, sel xs 287, sel xs 288, sel xs 289, sel xs 290, sel xs 291, sel xs 292, sel xs 293, sel xs 294, sel xs 295, sel xs 296, sel xs 297, sel xs 298, sel xs 299, sel xs 300, sel xs 301, sel xs 302, sel xs 303, sel xs 304, sel xs 305, sel xs 306, sel xs 307, sel xs 308, sel xs 309, sel xs 310, sel xs 311, sel xs 312, sel xs 313, sel xs 314, sel xs 315, sel xs 316, sel xs 317, sel xs 318, sel xs 319, sel xs 320, sel xs 321, sel xs 322, sel xs 323, sel xs 324, sel xs 325, sel xs 326, sel xs 327, sel xs 328, sel xs 329, sel xs 330, sel xs 331, sel xs 332, sel xs 333, sel xs 334, sel xs 335, sel xs 336, sel xs 337, sel xs 338, sel xs 339, sel xs 340, sel xs 341, sel xs 342, sel xs 343, sel xs 344, sel xs 345, sel xs 346, sel xs 347, sel xs 348, sel xs 349, sel xs 350, sel xs 351, sel xs 352, sel xs 353, sel xs 354, sel xs 355, sel xs 356, sel xs 357, sel xs 358, sel xs 359, sel xs 360, sel xs 361, sel xs 362, sel xs 363, sel xs 364, sel xs 365, sel xs 366, sel xs 367, sel xs 368, sel xs 369, sel xs 370, sel xs 371, sel xs 372, sel xs 373, sel xs 374, sel xs 375, sel xs 376, sel xs 377, sel xs 378, sel xs 379, sel xs 380, sel xs 381, sel xs 382, sel xs 383, sel xs 384, sel xs 385, sel xs 386, sel xs 387, sel xs 388, sel xs 389, sel xs 390, sel xs 391, sel xs 392, sel xs 393, sel xs 394, sel xs 395, sel xs 396, sel xs 397, sel xs 398, sel xs 399, sel xs 400] := (map_sel xs 401 h).trans (lit401 (sel xs))
theorem wp_loop_K {P : Program} {Q : Exit → Act → World → Prop} {a : Act} {w : World} {c : Code} (I : Nat → Act → World → Prop) (n₀ : Nat) (h₀ : I n₀ a w)
    (round : ∀ n a w, I n a w → ∀ K : Act → World → Prop, (∀ a' w', (∃ n', n' < n ∧ I n' a' w') → K a' w') → c.wp P (Exit.then K Q) a w) : (Code.loop c).wp P Q a w :=
  wp_loop_ghost I n₀ h₀ fun n a w h => round n a w h _ fun _ _ h => h
theorem wp_scope_two {P : Program} {a : Act} {w : World} {Q : Exit → Act → World → Prop} {c : Code} (J : Nat → Nat → Act → World → Prop)
    (first : c.wp P (Exit.jumpN J none Q) a w)
    (lab : ∀ l n a w, J l n a w → l = 0 ∨ l = 1)
    (zero : ∃ rest, findLabel c 0 = some (.seq .skip rest) ∧ ∀ n a w, J 0 n a w → rest.wp P (Exit.jumpN J (some n) Q) a w)
    (one : ∃ rest, findLabel c 1 = some (.seq .skip rest) ∧ ∀ n a w, J 1 n a w → ∀ H : (∀ rest0 a' w', findLabel c 0 = some (.seq .skip rest0) → J 0 n a' w' → rest0.wp P (Exit.jumpN J (some n) Q) a' w'), rest.wp P (Exit.jumpN J (some n) Q) a w) : (Code.scope c).wp P Q a w := by
  refine wp_scope_jumpsN J first fun l n a w h => ?_
  rcases lab l n a w h with rfl | rfl
  · obtain ⟨r, h1, h2⟩ := zero
    exact ⟨_, h1, wp_seq (wp_skip (h2 n a w h))⟩
  · obtain ⟨r, h1, h2⟩ := one
    refine ⟨_, h1, wp_seq (wp_skip (h2 n a w h fun r0 a' w' e hj => ?_))⟩
    obtain ⟨r', h1', h2'⟩ := zero
    rw [h1'] at e
    injection e with e
    injection e with _ e
    subst e
    exact h2' n a' w' hj
/-- what holds of the frame: the search's own slots -/
structure Fr (xs : List Value) (R B : Nat) : Prop where
  len : xs.length = 401
  s0 : sel xs 0 = .pointer (some ⟨R, 0, none⟩)
  s1 : sel xs 1 = .pointer (some ⟨B, 0, none⟩)
  s2 : sel xs 2 = .iface 158 (.pointer (some ⟨B, 5, none⟩))
  s10 : sel xs 10 = .bool false
  s11 : sel xs 11 = .bool false
theorem jobCells_length : ∀ J : List (Nat × Bool × Int), (jobCells J).length = J.length * 3
  | [] => rfl
  | j :: J => by
    have := jobCells_length J
    simp [jobCells] at this ⊢
    omega
/-- the last job, and the state without it -/
theorem BS.last {w : World} {base B CB MB VB vn L : Nat} {s : ByteArray} {J : List (Nat × Bool × Int)} {j : Nat × Bool × Int} {V : Nat → Nat → Bool} {C M : List Int} (h : BS w base B CB MB VB vn L s (J ++ [j]) V C M) :
    ∃ g cap, w.cell? ⟨B, 3, none⟩ = some (.slice (some ⟨g, 0, none⟩) (J.length + 1) cap) ∧ w.frozen? ⟨B, 3, none⟩ = false ∧ w.cell? ⟨g, J.length * 3, none⟩ = some (.int .u32 j.1) ∧ w.cell? ⟨g, J.length * 3 + 1, none⟩ = some (.bool j.2.1) ∧ w.cell? ⟨g, J.length * 3 + 2, none⟩ = some (.int .i64 j.2.2) ∧
      J.length + 1 ≤ cap ∧ cap ≤ maxLen ∧ BS (w.setCell ⟨B, 3, none⟩ (.slice (some ⟨g, 0, none⟩) J.length cap)) base B CB MB VB vn L s J V C M := by
  obtain ⟨jv, hb, hj⟩ := h.hb
  have b3 : w.cell? ⟨B, 3, none⟩ = some jv := cell_of_row _ _ 3 _ _ _ hb
  have f3 : w.frozen? ⟨B, 3, none⟩ = false := frozen_of_row _ _ _ _ _ hb
  have hlen : (J ++ [j]).length = J.length + 1 := by simp
  rw [hlen] at hj
  rcases hj.2 with ⟨_, h0⟩ | ⟨g, cap, cur, rfl, hbg, hg, hnc, hcm, hcs, htake⟩
  · omega
  · have hcell : ∀ i u, (jobCells (J ++ [j]))[i]? = some u → w.cell? ⟨g, i, none⟩ = some u := fun i u hu => by
      have := hj.cells (g := g) rfl i u hu
      have e : (⟨g, 0, none⟩ : Addr).add i = ⟨g, i, none⟩ := by simp [Addr.add]; omega
      rwa [e] at this
    have hjc : jobCells (J ++ [j]) = jobCells J ++ [.int .u32 j.1, .bool j.2.1, .int .i64 j.2.2] := by simp [jobCells]
    have hl := jobCells_length J
    have hat : ∀ i, (jobCells (J ++ [j]))[J.length * 3 + i]? = ([.int .u32 j.1, .bool j.2.1, .int .i64 j.2.2] : List Value)[i]? := fun i => by
      rw [hjc, List.getElem?_append_right (by omega), hl]; congr 1; omega
    have hj' : w.ownsRow base 171 3 (.slice (some ⟨g, 0, none⟩) J.length cap) J.length (jobCells J) := by
      refine ⟨hl, .inr ⟨g, cap, cur, rfl, hbg, hg, by omega, hcm, hcs, ?_⟩⟩
      have := congrArg (List.take (J.length * 3)) htake
      rw [List.take_take, hjc, List.take_left' hl] at this
      rw [← this]; congr 1; omega
    refine ⟨g, cap, b3, f3, hcell _ _ (by rw [show J.length * 3 = J.length * 3 + 0 by rfl, hat]; rfl), hcell _ _ (by rw [hat]; rfl), hcell _ _ (by rw [hat]; rfl), hnc, hcm, ?_⟩
    have hw := BS.setJobs (w1 := w) h hb (by rw [hlen]; exact hj) ⟨rfl, rfl, rfl, Nat.le_refl _, fun _ _ _ => rfl⟩ hj'
    exact hw
/-- a popped job -/
structure Popped (w0 w wr : World) (base R PB IB icap B CB MB VB vn nc : Nat) (T : List I) (s : ByteArray) (M : List Int) (k : Nat) (c f : Cfg) (pc : Nat) (p : Int) (J : List (Nat × Bool × Int)) : Prop where
  ctl : c.ctl = .pop
  jobs : c.jobs = (pc, true, p) :: J
  ctx : Ctx w0 wr base R PB IB icap T s
  good : Rx.Good T s.size nc c
  steps : Rx.Steps (envOf T s) k c f
  bs : BS wr base B CB MB VB vn T.length s J.reverse c.vis c.cap M
  below : Below base w wr
/-- what holds at a label: 0: the job is taken up; 1: its place is looked at -/
def Lab (w0 w : World) (base R PB IB icap B CB MB VB vn nc : Nat) (T : List I) (s : ByteArray) (M : List Int) (f : Cfg) (g : Nat) (l n : Nat) (a : Act) (wr : World) : Prop :=
  ∃ xs : List Value, a = { tmps := xs.toArray, defers := [] } ∧ Fr xs R B ∧ n ≤ g ∧ ∃ (pc : Nat) (p : Int) (arg : Bool), sel xs 13 = .int .u32 pc ∧ sel xs 14 = .int .i64 p ∧ sel xs 15 = .bool arg ∧
    ((l = 1 ∧ arg = false ∧ ∃ (c : Cfg) (pos : Nat), p = pos ∧ c.ctl = .chk pc pos ∧ At w0 w wr base R PB IB icap B CB MB VB vn nc T s M n c f) ∨
     (l = 0 ∧ arg = false ∧ ∃ (c : Cfg) (pos : Nat), p = pos ∧ c.ctl = .at_ pc pos ∧ ∃ m, m < n ∧ At w0 w wr base R PB IB icap B CB MB VB vn nc T s M m c f) ∨
     (l = 0 ∧ arg = true ∧ ∃ (c : Cfg) (J : List (Nat × Bool × Int)), Popped w0 w wr base R PB IB icap B CB MB VB vn nc T s M n c f pc p J))
/-- the loop's invariant -/
def Inv (w0 w : World) (base R PB IB icap B CB MB VB vn nc : Nat) (T : List I) (s : ByteArray) (M : List Int) (f : Cfg) (g : Nat) (a : Act) (wr : World) : Prop :=
  ∃ xs : List Value, a = { tmps := xs.toArray, defers := [] } ∧ Fr xs R B ∧ ∃ c : Cfg, c.ctl = .pop ∧ At w0 w wr base R PB IB icap B CB MB VB vn nc T s M g c f
/-- how the scope is left -/
def Left (I : Nat → Act → World → Prop) (Q : Exit → Act → World → Prop) (g : Nat) : Exit → Act → World → Prop
  | .exit l, a, w => l = 1 ∧ ∃ n', n' < g ∧ I n' a w
  | .ret, a, w => Q .ret a w
  | _, _, _ => False
theorem BS.c5 {w : World} {base B CB MB VB vn L : Nat} {s : ByteArray} {J : List (Nat × Bool × Int)} {V : Nat → Nat → Bool} {C M : List Int} (h : BS w base B CB MB VB vn L s J V C M) : w.cell? ⟨B, 5, none⟩ = some (.string s) := by
  obtain ⟨jv, hb, hj⟩ := h.hb
  exact cell_of_row _ _ 5 _ _ _ hb
theorem Ctx.tab' {w0 w : World} {base R PB IB icap : Nat} {T : List I} {s : ByteArray} (h : Ctx w0 w base R PB IB icap T s) : Lib.Utf8Tabs 11 12 w := Utf8Tabs_below h.tabs (by rw [h.size]; exact h.below)
theorem BS.cc {w : World} {base B CB MB VB vn L : Nat} {s : ByteArray} {J : List (Nat × Bool × Int)} {V : Nat → Nat → Bool} {C M : List Int} (h : BS w base B CB MB VB vn L s J V C M) (a : Nat) (ha : a < C.length) :
    w.cell? ⟨B, 1, none⟩ = some (.slice (some ⟨CB, 0, none⟩) C.length C.length) ∧ w.cell? ⟨CB, a, none⟩ = some (.int .i64 C[a]) ∧ w.frozen? ⟨CB, a, none⟩ = false := by
  obtain ⟨jv, hb, hj⟩ := h.hb
  have h1 : w.cell? ⟨B, 1, none⟩ = some (sl CB C.length) := cell_of_row _ _ 1 _ _ _ hb
  have hc := h.hc (by omega)
  refine ⟨by rw [h1]; unfold sl; rw [if_neg (by omega)], ?_, frozen_of_row _ _ _ _ _ hc⟩
  have h2 := cell_of_row _ _ a _ _ _ hc
  rw [h2]
  simp [ints, ha]
theorem BS.setC {w : World} {base B CB MB VB vn L : Nat} {s : ByteArray} {J : List (Nat × Bool × Int)} {V : Nat → Nat → Bool} {C M : List Int} (h : BS w base B CB MB VB vn L s J V C M) (a : Nat) (p : Int) (ha : a < C.length) :
    BS (w.setCell ⟨CB, a, none⟩ (.int .i64 p)) base B CB MB VB vn L s J V (C.set a p) M := by
  obtain ⟨cur, x, hv1, hv⟩ := h.hv.ex
  obtain ⟨jv, hb, hj⟩ := h.hb
  have hc0 := h.hc (by omega)
  have ob : ∀ {k : Nat} {cs : Array Value} {t : TypeId} {f : Nat × Nat}, w.heap[k]? = some (.cells cs t f) → t ≠ 3 → (w.setCell ⟨CB, a, none⟩ (.int .i64 p)).heap[k]? = some (.cells cs t f) := fun {k cs t f} hk ht => by
    rw [heap_setCell_other _ _ _ _ (typ_ne hk hc0 ht)]; exact hk
  refine ⟨⟨jv, by simpa using ob hb (by decide), own_of hj fun g cur hg hc => (ob hc (by decide)).trans hc.symm⟩, fun hc => ?_, fun hm => ?_, ⟨⟨cur, x, ob hv1 (by decide), hv⟩, h.hv.le, h.hv.fits⟩, h.cm, h.bb, h.bc, h.bm, h.bv, by simpa using h.bw⟩
  · have := heap_setCell_same w CB a _ 3 (.int .i64 p) hc0
    rw [this]
    simp [ints]
  · rw [heap_setCell_other _ _ _ _ (show MB ≠ CB from fun e => h.cm e.symm)]; exact h.hm hm
theorem BS.cg {w : World} {base B CB MB VB vn L : Nat} {s : ByteArray} {J : List (Nat × Bool × Int)} {V : Nat → Nat → Bool} {C M : List Int} (h : BS w base B CB MB VB vn L s J V C M) (a : Nat) (old : Int) (hg : C[a]? = some old) :
    w.cell? ⟨B, 1, none⟩ = some (.slice (some ⟨CB, 0, none⟩) C.length C.length) ∧ w.cell? ⟨CB, a, none⟩ = some (.int .i64 old) ∧ w.frozen? ⟨CB, a, none⟩ = false := by
  obtain ⟨ha, rfl⟩ := List.getElem?_eq_some_iff.1 hg
  exact h.cc a ha
theorem BS.c1 {w : World} {base B CB MB VB vn L : Nat} {s : ByteArray} {J : List (Nat × Bool × Int)} {V : Nat → Nat → Bool} {C M : List Int} (h : BS w base B CB MB VB vn L s J V C M) : w.cell? ⟨B, 1, none⟩ = some (sl CB C.length) := by
  obtain ⟨jv, hb, hj⟩ := h.hb
  exact cell_of_row _ _ 1 _ _ _ hb
theorem BS.c2 {w : World} {base B CB MB VB vn L : Nat} {s : ByteArray} {J : List (Nat × Bool × Int)} {V : Nat → Nat → Bool} {C M : List Int} (h : BS w base B CB MB VB vn L s J V C M) : w.cell? ⟨B, 2, none⟩ = some (sl MB M.length) := by
  obtain ⟨jv, hb, hj⟩ := h.hb
  exact cell_of_row _ _ 2 _ _ _ hb
theorem BS.mm {w : World} {base B CB MB VB vn L : Nat} {s : ByteArray} {J : List (Nat × Bool × Int)} {V : Nat → Nat → Bool} {C M : List Int} (h : BS w base B CB MB VB vn L s J V C M) (a : Nat) (ha : a < M.length) : w.cell? ⟨MB, a, none⟩ = some (.int .i64 M[a]) := by
  rw [cell_of_row _ _ a _ _ _ (h.hm (by omega))]
  simp [ints, ha]
/-- the match is laid down -/
theorem BS.setM {w : World} {base B CB MB VB vn L : Nat} {s : ByteArray} {J : List (Nat × Bool × Int)} {V : Nat → Nat → Bool} {C M : List Int} (h : BS w base B CB MB VB vn L s J V C M) (M' : List Int) (hl : M'.length = M.length) (h0 : 0 < M.length) :
    BS (w.setRow MB (ints M').toArray) base B CB MB VB vn L s J V C M' := by
  obtain ⟨cur, x, hv1, hv⟩ := h.hv.ex
  obtain ⟨jv, hb, hj⟩ := h.hb
  have hm0 := h.hm h0
  have ob : ∀ {k : Nat} {cs : Array Value} {t : TypeId} {f : Nat × Nat}, w.heap[k]? = some (.cells cs t f) → t ≠ 3 → (w.setRow MB (ints M').toArray).heap[k]? = some (.cells cs t f) := fun {k cs t f} hk ht => by
    rw [setRow_other _ _ _ _ (typ_ne hk hm0 ht)]; exact hk
  refine ⟨⟨jv, by rw [hl]; exact ob hb (by decide), own_of hj fun g cur hg hc => (ob hc (by decide)).trans hc.symm⟩, fun hc => ?_, fun _ => ?_, ⟨⟨cur, x, ob hv1 (by decide), hv⟩, h.hv.le, h.hv.fits⟩, h.cm, h.bb, h.bc, h.bm, h.bv, ?_⟩
  · rw [setRow_other _ _ _ _ h.cm]; exact h.hc hc
  · exact setRow_heap w MB _ _ 3 _ hm0
  · have := h.bw; simpa [World.setRow] using this
theorem size3 : (Tryz.prog.info? 3).map (·.size) = some 1 := by kernel_rfl
theorem BS.copyM {w : World} {base B CB MB VB vn L : Nat} {s : ByteArray} {J : List (Nat × Bool × Int)} {V : Nat → Nat → Bool} {C M : List Int} (h : BS w base B CB MB VB vn L s J V C M) (nc : Nat) (hC : C.length = nc) (hM : M.length = nc) (h0 : 0 < nc) :
    (Builtin.copy_ #[119, 119] 3 #[.slice (some ⟨MB, 0, none⟩) nc nc, .slice (some ⟨CB, 0, none⟩) nc nc]).run Tryz.prog w = .ok (.int .i64 nc) (w.setRow MB (ints C).toArray) := by
  have hr := run_copy_row (P := Tryz.prog) w 119 119 3 3 MB 0 nc nc ⟨CB, 0, none⟩ nc nc _ 3 (ints C) Tryz.underlying119 size3 (h.hm (by omega)) (by simp [ints, hC]) (fun j v hj => by
    have e : (⟨CB, 0, none⟩ : Addr).add j = ⟨CB, j, none⟩ := by simp [Addr.add]; omega
    rw [e, cell_of_row _ _ _ _ _ _ (h.hc (by omega)), ← Array.getElem?_toList]
    exact hj) (by simp [ints, hC, hM]) (by intro v hv; simp [ints] at hv; obtain ⟨a, _, rfl⟩ := hv; rfl)
  rw [hr]
  have hd : (ints M).drop nc = [] := List.drop_eq_nil_of_le (by simp [ints, hM])
  simp only [List.toList_toArray, Nat.zero_add, List.take_zero, List.nil_append, goInt]
  rw [show (ints C).length = nc by simp [ints, hC], hd, List.append_nil]
theorem steps_inv {E : Env} {k : Nat} {c : Cfg} {b : Bool} {J : List (Nat × Bool × Int)} {V : Nat → Nat → Bool} {C : List Int} (h : Rx.Steps E k c ⟨.fin b, J, V, C⟩) (hc : ∀ b, c.ctl ≠ .fin b) : ∃ m d, k = m + 1 ∧ mstep E c = some d ∧ Rx.Steps E m d ⟨.fin b, J, V, C⟩ := by
  cases h with
  | zero => exact absurd rfl (hc b)
  | succ h2 h3 => exact ⟨_, _, rfl, h2, h3⟩
/-- no jobs are left behind a search in vain -/
def JEnd (b : Bool) (J : List (Nat × Bool × Int)) : Prop := b = false → J = []
set_option maxHeartbeats 4000000 in
theorem tTry {w0 w : World} {base R PB IB icap B CB MB VB vn nc : Nat} {T : List I} {s : ByteArray} {M : List Int} {V : Nat → Nat → Bool} {C : List Int} (hc : Ctx w0 w base R PB IB icap T s) (h : BS w base B CB MB VB vn T.length s [] V C M) (start pos : Nat) (x : I) (hx : T[start]? = some x) (hf : opc x ≠ 5) (hpos : pos ≤ s.size)
    (hC : C.length = nc) (hnc : nc = 0 ∨ (2 ≤ nc ∧ nc ≤ 1000)) (hM : M = List.replicate nc (-1)) (k : Nat) (b : Bool) (Jf : List (Nat × Bool × Int)) (Vf : Nat → Nat → Bool) (Cf : List Int) (hs : Rx.Steps (envOf T s) k (cfg0 start pos V C) ⟨.fin b, Jf, Vf, Cf⟩) :
    Calls Tryz.prog 84 #[.pointer (some ⟨R, 0, none⟩), .pointer (some ⟨B, 0, none⟩), .iface 158 (.pointer (some ⟨B, 5, none⟩)), .int .u32 start, .int .i64 pos] w fun e w' => e = .returned (.bool b) ∧ (∃ J, JEnd b J ∧ BS w' base B CB MB VB vn T.length s J Vf Cf (if b then Cf else M)) ∧ Below base w w' := by
  
  have hg : Rx.Good T s.size nc (cfg0 start pos V C) := by
    unfold cfg0
    cases hv : V start pos with
    | true => exact ⟨fun j hj => (by cases hj), hC, Nat.zero_le _⟩
    | false =>
      refine ⟨fun j hj => ?_, hC, ?_⟩
      · have : j = (start, false, (pos : Int)) := by simpa using hj
        subst this
        exact ⟨⟨x, hx⟩, pos, rfl, hpos⟩
      · show 1 ≤ visited (Rx.mark V start pos) T.length s.size
        rw [visited_mark hv (List.getElem?_eq_some_iff.1 hx).1 hpos]
        omega
  have r15 := hc.prog.r15
  obtain ⟨M', hM'⟩ : ∃ M', M' = if b then Cf else M := ⟨_, rfl⟩
  rw [← hM']
  have HM' := Lib.hid hM'
  clear hM'
  have HC := Lib.hid hc
  have HP := Lib.hid (tPushF h hc.prog start x hx hf pos hpos hc.len hc.prog.len (List.getElem?_eq_some_iff.1 hx).1 (Nat.zero_le _))
  have HS := Lib.hid hs
  have HG := Lib.hid hg
  have HM := Lib.hid hM
  have HNC := Lib.hid hnc
  clear hs hg hC hx hf hpos h hM hnc
  go_enter Tryz.func84, Tryz.ntmps84
  go_wp2_with (go_at_call 96; refine HP.out.mono ?_; rintro e w1 ⟨⟨v, rfl⟩, hbs, hbel⟩; have H1 := Lib.hid hbs; have H2 := Lib.hid hbel; clear hbs hbel)
  refine wp_loop_K (Inv w0 w base R PB IB icap B CB MB VB vn nc T s M ⟨.fin b, Jf, Vf, Cf⟩) k ?_ ?_
  · refine ⟨_, rfl, ⟨rfl, rfl, rfl, rfl, rfl, rfl⟩, cfg0 start pos V C, by unfold cfg0; split <;> rfl, HC.out.go H2.out, HG.out, HS.out, ?_, H2.out⟩
    have hb := H1.out
    unfold cfg0
    cases hv : V start pos with
    | true => simpa [hv] using hb
    | false => simpa [hv] using hb
  · rintro g _ wr ⟨xs, rfl, hF, c, hpop, hAt⟩ K hK
    have HA := Lib.hid hAt
    have HPop := Lib.hid hpop
    have HF := Lib.hid hF
    have HK := Lib.hid hK
    obtain ⟨hl, e0, e1, e2, e10, e11⟩ := hF
    rw [fr401 xs hl, e0, e1, e2, e10, e11]
    clear hl e0 e1 e2 e10 e11 hAt hpop hK
    cases hj : c.jobs with
    | nil =>
      obtain ⟨jv, hb, hjs⟩ := HA.out.bs.hb
      have hfin : b = false ∧ Vf = c.vis ∧ Cf = c.cap := by
        have h1 : mstep (envOf T s) c = some { c with ctl := .fin false } := by
          obtain ⟨ctl, J, V, C⟩ := c
          have h2 : ctl = .pop := HPop.out
          subst h2
          have h3 : J = [] := hj
          subst h3
          rfl
        have := HA.out.steps
        cases this with
        | zero => have h2 := HPop.out; cases h2
        | succ h2 h3 =>
          rw [h1] at h2
          injection h2 with h2
          subst h2
          cases h3 with
          | zero => exact ⟨rfl, rfl, rfl⟩
          | succ h4 _ => cases h4
      obtain ⟨rfl, rfl, rfl⟩ := hfin
      have b3 : wr.cell? ⟨B, 3, none⟩ = some jv := cell_of_row _ _ 3 _ _ _ hb
      have hjv : ∃ a cap, jv = .slice a 0 cap := by
        rcases hjs.2 with ⟨rfl, _⟩ | ⟨g, cap, cur, rfl, _⟩
        · exact ⟨_, _, rfl⟩
        · exact ⟨_, cap, by rw [hj]; rfl⟩
      obtain ⟨ja, jc, rfl⟩ := hjv
      have HB := Lib.hid (show BS wr base B CB MB VB vn T.length s [] c.vis c.cap M by have := HA.out.bs; rw [hj] at this; exact this)
      have HBel := Lib.hid HA.out.below
      clear hb hjs hj HA HS HG HP H1 H2 HK
      go_wp2
      go_ret
      exact ⟨rfl, ⟨[], fun _ => rfl, by rw [HM'.out]; simpa using HB.out⟩, HBel.out⟩
    | cons j J =>
      obtain ⟨pc, arg, p⟩ := j
      have hbs : BS wr base B CB MB VB vn T.length s (J.reverse ++ [(pc, arg, p)]) c.vis c.cap M := by have := HA.out.bs; rw [hj] at this; simpa using this
      obtain ⟨g', cap, b3, f3, c0, c1, c2, hcap, hcm, hbs'⟩ := hbs.last
      rw [List.length_reverse] at b3 c0 c1 c2 hcap hbs'
      have hJ : J.length < 1099511627776 := by
        have h1 := HA.out.good.at_
        rw [HPop.out] at h1
        have h1 : c.jobs.length ≤ visited c.vis T.length s.size := h1
        rw [hj] at h1
        have h2 := visited_le c.vis T.length s.size
        have h3 : T.length * (s.size + 1) ≤ 1000 * 1000001 := Nat.mul_le_mul HA.out.ctx.pg.len (by have := HA.out.ctx.len; omega)
        simp at h1
        omega
      have HBS := Lib.hid hbs'
      clear hbs hbs'
      go_wp2
      refine Code.wp_mono (Q := Left (Inv w0 w base R PB IB icap B CB MB VB vn nc T s M ⟨.fin b, Jf, Vf, Cf⟩) (bodyPost Tryz.prog Tryz.f84 fun e w' => e = Ending.returned (Value.bool b) ∧ (∃ J, JEnd b J ∧ BS w' base B CB MB VB vn T.length s J Vf Cf M') ∧ Below base w w') g) ?_ ?_
      · rintro e a' w' hq
        cases e with
        | exit l => obtain ⟨rfl, hq⟩ := hq; exact HK.out _ _ hq
        | ret => exact hq
        | _ => exact hq.elim
      · refine wp_scope_two (Lab w0 w base R PB IB icap B CB MB VB vn nc T s M ⟨.fin b, Jf, Vf, Cf⟩ g) ?_ ?_ ?_ ?_
        · have HJ := Lib.hid hj
          clear hj HK
          go_wp2
          refine wp_goto ?_
          have hcfg : c = ⟨.pop, (pc, arg, p) :: J, c.vis, c.cap⟩ := by
            obtain ⟨ctl, J', V', C'⟩ := c
            have h2 : ctl = .pop := HPop.out
            have h3 : J' = (pc, arg, p) :: J := HJ.out
            subst h2 h3; rfl
          have hb1 := (Below.refl base wr).setCell (p := ⟨B, 3, none⟩) HBS.out.bb (.slice (some ⟨g', 0, none⟩) J.length cap)
          have hbel : Below base w (wr.setCell ⟨B, 3, none⟩ (.slice (some ⟨g', 0, none⟩) J.length cap)) := HA.out.below.setCell (p := ⟨B, 3, none⟩) HBS.out.bb _
          refine ⟨g, fun _ h => (by cases h), _, rfl, ⟨rfl, rfl, rfl, rfl, rfl, rfl⟩, Nat.le_refl _, pc, p, arg, rfl, rfl, rfl, .inr ?_⟩
          cases arg with
          | true => exact .inr ⟨rfl, rfl, c, J, HPop.out, HJ.out, HA.out.ctx.go hb1, HA.out.good, HA.out.steps, HBS.out, hbel⟩
          | false =>
            obtain ⟨m, d, rfl, hd, hsd⟩ := steps_inv HA.out.steps (by rw [HPop.out]; intro b h; cases h)
            have hjob := HA.out.good.jobs (pc, false, p) (by rw [HJ.out]; exact List.mem_cons_self)
            obtain ⟨_, q, hq, hqn⟩ := hjob
            have hq : p = (q : Int) := hq
            subst hq
            have hgd := HA.out.good.step HC.out.tab rfl HC.out.ok hd
            rw [hcfg] at hd
            simp [mstep] at hd
            subst hd
            exact .inl ⟨rfl, rfl, _, q, rfl, rfl, m, Nat.lt_succ_self _, HA.out.ctx.go hb1, hgd, hsd, HBS.out, hbel⟩
        · rintro l n a wr ⟨xs, _, _, _, pc, p, arg, _, _, _, h | h | h⟩
          · exact .inr h.1
          · exact .inl h.1
          · exact .inl h.1
        · refine ⟨_, rfl, ?_⟩
          rintro n _ wr ⟨xs, rfl, hF, hn, pc, p, arg, e13, e14, e15, h⟩
          obtain ⟨hl, e0, e1, e2, e10, e11⟩ := hF
          rw [fr401 xs hl, e0, e1, e2, e10, e11, e13, e14, e15]
          clear hl e0 e1 e2 e10 e11 e13 e14 e15 HBS HA HK HPop HF HP H1 H2 HS HG
          rcases h with h | ⟨_, rfl, c', pos', rfl, hctl, m', hm', hA⟩ | ⟨_, rfl, c', J', hP⟩
          · exact absurd h.1 (by decide)
          · have HA' := Lib.hid hA
            have hgd := hA.good.at_
            rw [hctl] at hgd
            obtain ⟨x, hx⟩ : ∃ x, T[pc]? = some x := ⟨_, List.getElem?_eq_getElem hgd.1⟩
            have hPG := hA.ctx.prog
            obtain ⟨m, d, rfl, hd, hsd⟩ := steps_inv hA.steps (by rw [hctl]; intro b h; cases h)
            have hgood := hA.good.step HC.out.tab rfl HC.out.ok hd
            have HGd := Lib.hid hA.good
            have hcfg : c' = ⟨.at_ pc pos', c'.jobs, c'.vis, c'.cap⟩ := by
              obtain ⟨ctl, J', V', C'⟩ := c'
              have h2 : ctl = .at_ pc pos' := hctl
              subst h2; rfl
            have hE : (envOf T s).prog pc = x := tabP_of hx
            have r1 := hPG.r1
            have p0 := hPG.p0
            have i0 := (hPG.inst pc x hx).op
            have i1 := (hPG.inst pc x hx).out
            have i2 := (hPG.inst pc x hx).arg
            have k1 : (pc : Int) < (T.length : Int) := by have := hgd.1; omega
            have HG' := Lib.hid hgood
            have HS' := Lib.hid hsd
            have HN := Lib.hid (show m + 1 < n ∧ n ≤ g from ⟨hm', hn⟩)
            have HX := Lib.hid hx
            have HPG := Lib.hid hPG
            have HD := Lib.hid hgd
            have hjl : c'.jobs.reverse.length ≤ 1002000000 := by
              have h1 := hgd.2.2
              have h2 := visited_le c'.vis T.length s.size
              have h3 : T.length * (s.size + 1) ≤ 1000 * 1000001 := Nat.mul_le_mul hPG.len (by have := hA.ctx.len; omega)
              simp at h1 ⊢
              omega
            rw [hcfg] at hd
            simp only [mstep, hE] at hd
            clear hE hcfg hgood hsd hm' hn hx hPG hgd hA hctl
            cases x with
            | alt o a' =>
              have HV := Lib.hid (tPushT HA'.out.bs HPG.out pc _ HX.out (by simp [opc]) (pos' : Int) hjl)
              simp only [Option.some.injEq] at hd
              subst hd
              simp only [opc, outc, argc] at i0 i1 i2
              go_wp2_with (go_at_call 96; refine HV.out.mono ?_; rintro e w2 ⟨⟨v, rfl⟩, hbs2, hbel2⟩; have i1' := ((HA'.out.ctx.go hbel2).prog.inst pc _ HX.out).out)
              refine wp_goto ?_
              refine ⟨m, fun k h => (by injection h; have := HN.out; omega), _, rfl, ⟨rfl, rfl, rfl, rfl, rfl, rfl⟩, (by have := HN.out; omega), o, _, _, rfl, rfl, rfl, .inl ⟨rfl, rfl, _, pos', rfl, rfl, HA'.out.ctx.go hbel2, HG'.out, HS'.out, by simpa using hbs2, HA'.out.below.trans hbel2⟩⟩
            | nop o =>
              simp only [Option.some.injEq] at hd
              subst hd
              simp only [opc, outc, argc] at i0 i1 i2
              go_wp2
              refine wp_goto ?_
              refine ⟨m, fun k h => (by injection h; have := HN.out; omega), _, rfl, ⟨rfl, rfl, rfl, rfl, rfl, rfl⟩, (by have := HN.out; omega), _, _, _, rfl, rfl, rfl, .inl ⟨rfl, rfl, _, pos', rfl, rfl, HA'.out.ctx, HG'.out, HS'.out, HA'.out.bs, HA'.out.below⟩⟩
            | rune o rs =>
              obtain ⟨⟨rb, rcap, hR⟩, hl, hri⟩ := (HPG.out.inst pc _ HX.out).rune o rs rfl
              have HV := Lib.hid (tStep B s pos' (by have := HD.out.2.1; have := HC.out.len; omega) HC.out.len wr HA'.out.ctx.tab' HA'.out.bs.c5)
              have HR := Lib.hid hR
              have HL := Lib.hid (And.intro hl hri)
              clear hR hl hri
              change (if matchRune rs (stepB s pos').1 then _ else _) = _ at hd
              simp only [opc, outc, argc] at i0 i1 i2
              cases hm : matchRune rs (stepB s pos').1 with
              | true =>
                simp only [hm, if_true, Option.some.injEq] at hd
                subst hd
                have hw : pos' + (stepB s pos').2 ≤ s.size := HG'.out.at_.2.1
                have hlen := HC.out.len
                go_wp2_with (first
                  | (go_at_call 72; refine HV.out.mono ?_; rintro e w2 ⟨rfl, hb2⟩; have hbel2 := hb2.mono HA'.out.bs.bw; have i1' := ((HA'.out.ctx.go hbel2).prog.inst pc _ HX.out).out; simp only [outc] at i1')
                  | (go_at_call 98; refine (tMatchRune IB (pc * 4) rb rcap rs _ w2 (HR.out.keep hb2) HL.out.1 HL.out.2).mono ?_; rintro e w3 ⟨rfl, rfl⟩; rw [hm]))
                refine wp_goto ?_
                refine ⟨m, fun k h => (by injection h; have := HN.out; omega), _, rfl, ⟨rfl, rfl, rfl, rfl, rfl, rfl⟩, (by have := HN.out; omega), o, _, _, rfl, rfl, rfl, .inl ⟨rfl, rfl, _, pos' + (stepB s pos').2, by simp, rfl, HA'.out.ctx.go hbel2, HG'.out, HS'.out, HA'.out.bs.keep hb2, HA'.out.below.trans hbel2⟩⟩
              | false =>
                simp only [hm, Bool.false_eq_true, if_false, Option.some.injEq] at hd
                subst hd
                go_wp2_with (first
                  | (go_at_call 72; refine HV.out.mono ?_; rintro e w2 ⟨rfl, hb2⟩; have hbel2 := hb2.mono HA'.out.bs.bw)
                  | (go_at_call 98; refine (tMatchRune IB (pc * 4) rb rcap rs _ w2 (HR.out.keep hb2) HL.out.1 HL.out.2).mono ?_; rintro e w3 ⟨rfl, rfl⟩; rw [hm]))
                refine ⟨rfl, m, (by have := HN.out; omega), _, rfl, ⟨rfl, rfl, rfl, rfl, rfl, rfl⟩, _, rfl, HA'.out.ctx.go hbel2, HG'.out, HS'.out, HA'.out.bs.keep hb2, HA'.out.below.trans hbel2⟩
            | one o r =>
              obtain ⟨rb, rcap, hR⟩ := (HPG.out.inst pc _ HX.out).one o r rfl
              have HV := Lib.hid (tStep B s pos' (by have := HD.out.2.1; have := HC.out.len; omega) HC.out.len wr HA'.out.ctx.tab' HA'.out.bs.c5)
              have HR := Lib.hid hR
              clear hR
              change (if (stepB s pos').1 = r then _ else _) = _ at hd
              simp only [opc, outc, argc] at i0 i1 i2
              by_cases hm : (stepB s pos').1 = r
              · simp only [hm, if_true, Option.some.injEq] at hd
                subst hd
                have hw : pos' + (stepB s pos').2 ≤ s.size := HG'.out.at_.2.1
                have hlen := HC.out.len
                go_wp2_with (go_at_call 72; refine HV.out.mono ?_; rintro e w2 ⟨rfl, hb2⟩; rw [hm]; have hbel2 := hb2.mono HA'.out.bs.bw; have i1' := ((HA'.out.ctx.go hbel2).prog.inst pc _ HX.out).out; simp only [outc] at i1'; have i3 := (HR.out.keep hb2).at3; have i4 := (HR.out.keep hb2).get 0 (by simp); simp at i3 i4)
                refine wp_goto ?_
                refine ⟨m, fun k h => (by injection h; have := HN.out; omega), _, rfl, ⟨rfl, rfl, rfl, rfl, rfl, rfl⟩, (by have := HN.out; omega), o, _, _, rfl, rfl, rfl, .inl ⟨rfl, rfl, _, pos' + (stepB s pos').2, by simp, rfl, HA'.out.ctx.go hbel2, HG'.out, HS'.out, HA'.out.bs.keep hb2, HA'.out.below.trans hbel2⟩⟩
              · simp only [hm, if_false, Option.some.injEq] at hd
                subst hd
                go_wp2_with (go_at_call 72; refine HV.out.mono ?_; rintro e w2 ⟨rfl, hb2⟩; have hbel2 := hb2.mono HA'.out.bs.bw; have i3 := (HR.out.keep hb2).at3; have i4 := (HR.out.keep hb2).get 0 (by simp); simp at i3 i4)
                refine ⟨rfl, m, (by have := HN.out; omega), _, rfl, ⟨rfl, rfl, rfl, rfl, rfl, rfl⟩, _, rfl, HA'.out.ctx.go hbel2, HG'.out, HS'.out, HA'.out.bs.keep hb2, HA'.out.below.trans hbel2⟩
            | fail => cases hd
            | emp o a' =>
              rcases HC.out.emp pc o a' HX.out with rfl | rfl
              · have HV := Lib.hid (tCtx B s pos' HD.out.2.1 HC.out.len wr HA'.out.ctx.tab' HA'.out.bs.c5)
                have hl1 := lastB_range s pos'
                have hs1 := stepB_range s pos'
                have HW := Lib.hid (fun w2 => tMatch4 (lastB s pos') (stepB s pos').1 (by omega) (by omega) (by omega) (by omega) w2)
                have hneg := lastB_neg s pos'
                clear hl1 hs1
                change (if (decide (pos' = 0) = true) then _ else _) = _ at hd
                simp only [opc, outc, argc] at i0 i1 i2
                by_cases hm : pos' = 0
                · rw [if_pos (decide_eq_true hm)] at hd
                  rw [decide_eq_true hm] at hneg
                  simp only [Option.some.injEq] at hd
                  subst hd
                  clear hm
                  go_wp2_with (first
                    | (go_at_call 140; refine HV.out.mono ?_; rintro e w2 ⟨rfl, hb2⟩; have hbel2 := hb2.mono HA'.out.bs.bw; have i1' := ((HA'.out.ctx.go hbel2).prog.inst pc _ HX.out).out; have i2' := ((HA'.out.ctx.go hbel2).prog.inst pc _ HX.out).arg; simp only [outc, argc] at i1' i2')
                    | (go_at_call 99; refine (HW.out _).mono ?_; rintro e w3 ⟨rfl, rfl⟩; rw [hneg]))
                  refine wp_goto ?_
                  exact ⟨m, fun k h => (by injection h; have := HN.out; omega), _, rfl, ⟨rfl, rfl, rfl, rfl, rfl, rfl⟩, (by have := HN.out; omega), o, _, _, rfl, rfl, rfl, .inl ⟨rfl, rfl, _, pos', rfl, rfl, HA'.out.ctx.go hbel2, HG'.out, HS'.out, HA'.out.bs.keep hb2, HA'.out.below.trans hbel2⟩⟩
                · rw [if_neg (by simpa using hm)] at hd
                  rw [decide_eq_false hm] at hneg
                  simp only [Option.some.injEq] at hd
                  subst hd
                  clear hm
                  go_wp2_with (first
                    | (go_at_call 140; refine HV.out.mono ?_; rintro e w2 ⟨rfl, hb2⟩; have hbel2 := hb2.mono HA'.out.bs.bw; have i2' := ((HA'.out.ctx.go hbel2).prog.inst pc _ HX.out).arg; simp only [argc] at i2')
                    | (go_at_call 99; refine (HW.out _).mono ?_; rintro e w3 ⟨rfl, rfl⟩; rw [hneg]))
                  exact ⟨rfl, m, (by have := HN.out; omega), _, rfl, ⟨rfl, rfl, rfl, rfl, rfl, rfl⟩, _, rfl, HA'.out.ctx.go hbel2, HG'.out, HS'.out, HA'.out.bs.keep hb2, HA'.out.below.trans hbel2⟩
              · have HV := Lib.hid (tCtx B s pos' HD.out.2.1 HC.out.len wr HA'.out.ctx.tab' HA'.out.bs.c5)
                have hl1 := lastB_range s pos'
                have hs1 := stepB_range s pos'
                have HW := Lib.hid (fun w2 => tMatch8 (lastB s pos') (stepB s pos').1 (by omega) (by omega) (by omega) (by omega) w2)
                have hneg := stepB_neg s pos' HD.out.2.1
                clear hl1 hs1
                change (if (decide (pos' = s.size) = true) then _ else _) = _ at hd
                simp only [opc, outc, argc] at i0 i1 i2
                by_cases hm : pos' = s.size
                · rw [if_pos (decide_eq_true hm)] at hd
                  rw [decide_eq_true hm] at hneg
                  simp only [Option.some.injEq] at hd
                  subst hd
                  clear hm
                  go_wp2_with (first
                    | (go_at_call 140; refine HV.out.mono ?_; rintro e w2 ⟨rfl, hb2⟩; have hbel2 := hb2.mono HA'.out.bs.bw; have i1' := ((HA'.out.ctx.go hbel2).prog.inst pc _ HX.out).out; have i2' := ((HA'.out.ctx.go hbel2).prog.inst pc _ HX.out).arg; simp only [outc, argc] at i1' i2')
                    | (go_at_call 99; refine (HW.out _).mono ?_; rintro e w3 ⟨rfl, rfl⟩; rw [hneg]))
                  refine wp_goto ?_
                  exact ⟨m, fun k h => (by injection h; have := HN.out; omega), _, rfl, ⟨rfl, rfl, rfl, rfl, rfl, rfl⟩, (by have := HN.out; omega), o, _, _, rfl, rfl, rfl, .inl ⟨rfl, rfl, _, pos', rfl, rfl, HA'.out.ctx.go hbel2, HG'.out, HS'.out, HA'.out.bs.keep hb2, HA'.out.below.trans hbel2⟩⟩
                · rw [if_neg (by simpa using hm)] at hd
                  rw [decide_eq_false hm] at hneg
                  simp only [Option.some.injEq] at hd
                  subst hd
                  clear hm
                  go_wp2_with (first
                    | (go_at_call 140; refine HV.out.mono ?_; rintro e w2 ⟨rfl, hb2⟩; have hbel2 := hb2.mono HA'.out.bs.bw; have i2' := ((HA'.out.ctx.go hbel2).prog.inst pc _ HX.out).arg; simp only [argc] at i2')
                    | (go_at_call 99; refine (HW.out _).mono ?_; rintro e w3 ⟨rfl, rfl⟩; rw [hneg]))
                  exact ⟨rfl, m, (by have := HN.out; omega), _, rfl, ⟨rfl, rfl, rfl, rfl, rfl, rfl⟩, _, rfl, HA'.out.ctx.go hbel2, HG'.out, HS'.out, HA'.out.bs.keep hb2, HA'.out.below.trans hbel2⟩
            | cap o a' =>
              simp only [opc, outc, argc] at i0 i1 i2
              have hnl : c'.cap.length = nc := HGd.out.cap
              cases hg : c'.cap[a']? with
              | none =>
                simp only [hg, Option.some.injEq] at hd
                subst hd
                have b1 := HA'.out.bs.c1
                have hal : c'.cap.length ≤ a' := List.getElem?_eq_none_iff.1 hg
                obtain ⟨cp, hcp⟩ : ∃ cp, sl CB c'.cap.length = .slice cp c'.cap.length c'.cap.length := by
                  unfold sl; split
                  · next h => exact ⟨_, by rw [h]⟩
                  · exact ⟨_, rfl⟩
                rw [hcp] at b1
                have k2 : ¬ (a' : Int) < (c'.cap.length : Int) := by omega
                have kw : IntKind.u32.wrap (c'.cap.length : Int) = (c'.cap.length : Int) := by have := HNC.out; rw [IntKind.wrap_u32]; omega
                clear hal hcp hg hnl
                go_wp2
                go_region_held3 (fun w' => w'.cell? ⟨IB, pc * 4 + 2, none⟩ = some (.int .u32 a') ∧ w'.cell? ⟨B, 1, none⟩ = some (.slice cp c'.cap.length c'.cap.length)) (exact ⟨by assumption, by assumption⟩) (fail)
                go_wp2
                refine wp_goto ?_
                refine ⟨m, fun k h => (by injection h; have := HN.out; omega), _, rfl, ⟨rfl, rfl, rfl, rfl, rfl, rfl⟩, (by have := HN.out; omega), o, _, _, rfl, rfl, rfl, .inl ⟨rfl, rfl, _, pos', rfl, rfl, HA'.out.ctx.go ((Below.refl _ _).drew), HG'.out, HS'.out, HA'.out.bs.keep ((Below.refl _ _).drew), HA'.out.below.trans ((Below.refl _ _).drew)⟩⟩
              | some old =>
                simp only [hg, Option.some.injEq] at hd
                subst hd
                have hal : a' < c'.cap.length := (List.getElem?_eq_some_iff.1 hg).1
                obtain ⟨b1, b2, b3⟩ := HA'.out.bs.cg a' old hg
                have HCG := Lib.hid hg
                have k2 : (a' : Int) < (c'.cap.length : Int) := by omega
                have kw : IntKind.u32.wrap (c'.cap.length : Int) = (c'.cap.length : Int) := by have := HNC.out; rw [IntKind.wrap_u32]; omega
                have hdr := (Below.refl wr.heap.size wr).drew
                have HV := Lib.hid (tPushT (HA'.out.bs.keep hdr.drew) (HPG.out.keep hdr.drew) pc _ HX.out (by simp [opc]) old hjl)
                have HAL := Lib.hid (show a' < c'.cap.length from hal)
                clear hal hg hnl
                go_wp2
                go_region_held3 (fun w' => w'.cell? ⟨IB, pc * 4 + 2, none⟩ = some (.int .u32 a') ∧ w'.cell? ⟨B, 1, none⟩ = some (.slice (some ⟨CB, 0, none⟩) c'.cap.length c'.cap.length)) (exact ⟨by assumption, by assumption⟩) (fail)
                go_wp2
                go_region_held3 (fun w' => w'.cell? ⟨IB, pc * 4 + 2, none⟩ = some (.int .u32 a') ∧ w'.cell? ⟨B, 1, none⟩ = some (.slice (some ⟨CB, 0, none⟩) c'.cap.length c'.cap.length) ∧ w'.cell? ⟨CB, a', none⟩ = some (.int .i64 old)) (exact ⟨by assumption, by assumption, by assumption⟩) (first | (go_at_call 96; refine HV.out.mono ?_; rintro e w2 ⟨⟨v, rfl⟩, hbs2, hbel2⟩; obtain ⟨b1', b2', b3'⟩ := hbs2.cg a' old HCG.out; have hbel3 := (Below.refl base wr).drew.drew.trans hbel2; have hbelS := hbel3.trans ((Below.refl base w2).setCell (p := ⟨CB, a', none⟩) hbs2.bc (.int .i64 pos')); have i1' := ((HA'.out.ctx.go hbelS).prog.inst pc _ HX.out).out; have i2' := ((HA'.out.ctx.go hbel3).prog.inst pc _ HX.out).arg; simp only [outc, argc] at i1' i2'))
                go_wp2
                go_region_with (fail)
                all_goals go_wp2
                all_goals refine wp_goto ?_
                all_goals exact ⟨m, fun k h => (by injection h; have := HN.out; omega), _, rfl, ⟨rfl, rfl, rfl, rfl, rfl, rfl⟩, (by have := HN.out; omega), o, _, _, rfl, rfl, rfl, .inl ⟨rfl, rfl, _, pos', rfl, rfl, HA'.out.ctx.go hbelS.drew, HG'.out, HS'.out, by simpa using (hbs2.setC a' (pos' : Int) HAL.out).keep ((Below.refl _ _).drew), HA'.out.below.trans hbelS.drew⟩⟩
            | mtch =>
              simp only [Option.some.injEq] at hd
              subst hd
              simp only [opc, outc, argc] at i0 i1 i2
              have hnl : c'.cap.length = nc := HGd.out.cap
              have hfin : b = true ∧ Vf = c'.vis ∧ Cf = c'.cap.set 1 (pos' : Int) := by
                cases HS'.out with
                | zero => exact ⟨rfl, rfl, rfl⟩
                | succ h4 _ => cases h4
              obtain ⟨rfl, rfl, hCf⟩ := hfin
              have HCf := Lib.hid hCf
              have hbm := HA'.out.bs
              have hM := HM.out
              have HL := Lib.hid hnl
              rcases HNC.out with hz | ⟨hz, hz'⟩
              · have b1 : wr.cell? ⟨B, 1, none⟩ = some (.slice none 0 0) := by rw [hbm.c1, hnl, hz]; rfl
                have HZ := Lib.hid hz
                clear hCf hM hnl hbm hz
                go_wp2
                change bodyPost Tryz.prog Tryz.f84 (fun e w' => e = Ending.returned (Value.bool true) ∧ (∃ J, JEnd true J ∧ BS w' base B CB MB VB vn T.length s J c'.vis Cf M') ∧ Below base w w') .ret _ _
                go_ret
                refine ⟨rfl, ⟨c'.jobs.reverse, fun h => (by cases h), ?_⟩, HA'.out.below⟩
                have h1 : M = [] := by have := HM.out; rw [HZ.out] at this; exact this
                have h2 : c'.cap = [] := List.eq_nil_of_length_eq_zero (by rw [HL.out, HZ.out])
                have h3 : Cf = c'.cap := by rw [HCf.out, h2]; rfl
                have h4 : M' = M := by rw [HM'.out, h3, h1]; simpa using h2
                rw [h4, h3]; exact HA'.out.bs
              · have b1 : wr.cell? ⟨B, 1, none⟩ = some (.slice (some ⟨CB, 0, none⟩) nc nc) := by rw [hbm.c1, hnl]; unfold sl; rw [if_neg (by omega)]
                have hml : M.length = nc := by rw [hM]; simp
                have b2 : wr.cell? ⟨B, 2, none⟩ = some (.slice (some ⟨MB, 0, none⟩) nc nc) := by rw [hbm.c2, hml]; unfold sl; rw [if_neg (by omega)]
                have b3 := (hbm.cc 1 (by omega)).2.2
                obtain ⟨x1, hx1⟩ : ∃ x, wr.cell? ⟨CB, 1, none⟩ = some x := ⟨_, (hbm.cc 1 (by omega)).2.1⟩
                have hcp := (hbm.setC 1 (pos' : Int) (by omega)).keep ((Below.refl _ _).drew)
                have hBS3 := hcp.setM (c'.cap.set 1 (pos' : Int)) (by rw [List.length_set, hml]; exact hnl) (by omega)
                have HBS3 := Lib.hid hBS3
                have HE1 := Lib.hid hBS3.c1
                have HE2 := Lib.hid hBS3.c2
                rw [List.length_set, hnl] at HE1 HE2
                unfold sl at HE1 HE2
                rw [if_neg (by omega)] at HE1 HE2
                clear hBS3
                have hcp := hcp.copyM nc (by rw [List.length_set]; exact hnl) hml (by omega)
                have k4 : ¬ ((nc : Int) = 0) := by omega
                have k5 : (1 : Int) < (nc : Int) := by omega
                have hbs2 := hbm.setC 1 (pos' : Int) (by omega)
                have b4 : (wr.setCell ⟨CB, 1, none⟩ (.int .i64 pos')).cell? ⟨MB, 1, none⟩ = some (.int .i64 (-1)) := by rw [hbs2.mm 1 (by omega)]; simp [hM]
                have b5 := hbs2.c2
                rw [hml] at b5
                unfold sl at b5
                rw [if_neg (by omega)] at b5
                have b6 : (wr.setCell ⟨CB, 1, none⟩ (.int .i64 pos')).cell? ⟨B, 1, none⟩ = some (.slice (some ⟨CB, 0, none⟩) nc nc) := by rw [hbs2.c1, List.length_set, hnl]; unfold sl; rw [if_neg (by omega)]
                have HB2 := Lib.hid hbs2
                have HML := Lib.hid hml
                have HZ := Lib.hid hz
                clear hbs2 hml hCf hM hnl hbm hz
                go_wp2
                go_region_held3 (fun w' => w'.cell? ⟨B, 2, none⟩ = some (.slice (some ⟨MB, 0, none⟩) nc nc) ∧ w'.cell? ⟨B, 1, none⟩ = some (.slice (some ⟨CB, 0, none⟩) nc nc)) (first | exact ⟨by assumption, by assumption⟩ | exact ⟨HE2.out, HE1.out⟩) (fail)
                go_wp2
                change bodyPost Tryz.prog Tryz.f84 (fun e w' => e = Ending.returned (Value.bool true) ∧ (∃ J, JEnd true J ∧ BS w' base B CB MB VB vn T.length s J c'.vis Cf M') ∧ Below base w w') .ret _ _
                go_ret
                refine ⟨rfl, ⟨c'.jobs.reverse, fun h => (by cases h), ?_⟩, ?_⟩
                · have h4 : M' = Cf := by rw [HM'.out]; rfl
                  rw [h4, HCf.out]; exact HBS3.out
                · exact HA'.out.below.trans (below_setRow ((Below.refl base wr).setCell (p := ⟨CB, 1, none⟩) HA'.out.bs.bc _).drew HA'.out.bs.bm _)
          · have hjob := hP.good.jobs (pc, true, p) (by rw [hP.jobs]; exact List.mem_cons_self)
            have hPG := hP.ctx.prog
            obtain ⟨m, d, rfl, hd, hsd⟩ := steps_inv hP.steps (by rw [hP.ctl]; intro b h; cases h)
            have hgood := hP.good.step HC.out.tab rfl HC.out.ok hd
            have hcfg : c' = ⟨.pop, (pc, true, p) :: J', c'.vis, c'.cap⟩ := by
              obtain ⟨ctl, J'', V', C'⟩ := c'
              have h2 : ctl = .pop := hP.ctl
              have h3 : J'' = (pc, true, p) :: J' := hP.jobs
              subst h2 h3; rfl
            have r1 := hPG.r1
            have p0 := hPG.p0
            have HG' := Lib.hid hgood
            have HS' := Lib.hid hsd
            have HP' := Lib.hid hP
            have HN := Lib.hid (show m + 1 ≤ g from hn)
            rcases hjob with ⟨o, a', hx, q, hq, hqn⟩ | ⟨o, a', hx, ha⟩
            · have hq : p = (q : Int) := hq
              subst hq
              have hE : (envOf T s).prog pc = .alt o a' := tabP_of hx
              have i0 := (hPG.inst pc _ hx).op
              have i2 := (hPG.inst pc _ hx).arg
              have k1 : (pc : Int) < (T.length : Int) := by have := (List.getElem?_eq_some_iff.1 hx).1; omega
              rw [hcfg] at hd
              simp only [mstep, hE, Option.some.injEq] at hd
              subst hd
              simp only [opc, outc, argc] at i0 i2
              clear hE hcfg hgood hsd hn hx hPG hP
              go_wp2
              refine wp_goto ?_
              refine ⟨m, fun k h => (by injection h; omega), _, rfl, ⟨rfl, rfl, rfl, rfl, rfl, rfl⟩, (by have := HN.out; omega), a', _, _, rfl, rfl, rfl, .inl ⟨rfl, rfl, _, q, rfl, by simp, HP'.out.ctx, HG'.out, HS'.out, HP'.out.bs, HP'.out.below⟩⟩
            · have hE : (envOf T s).prog pc = .cap o a' := tabP_of hx
              have i0 := (hPG.inst pc _ hx).op
              have i2 := (hPG.inst pc _ hx).arg
              have k1 : (pc : Int) < (T.length : Int) := by have := (List.getElem?_eq_some_iff.1 hx).1; omega
              have hal : a' < c'.cap.length := by rw [hP.good.cap]; exact ha
              obtain ⟨b1, b2, b3⟩ := hP.bs.cc a' hal
              have hbs2 := hP.bs.setC a' p hal
              have hbel2 := (Below.refl base wr).setCell (p := ⟨CB, a', none⟩) hP.bs.bc (.int .i64 p)
              have HB2 := Lib.hid hbs2
              have HBel2 := Lib.hid hbel2
              have k2 : (a' : Int) < (c'.cap.length : Int) := by omega
              rw [hcfg] at hd
              simp only [mstep, hE, Option.some.injEq] at hd
              subst hd
              simp only [opc, outc, argc] at i0 i2
              clear hE hcfg hgood hsd hn hx hPG hP hbs2 hbel2
              go_wp2
              go_region_with (fail)
              all_goals try go_wp2
              all_goals exact ⟨rfl, m, HN.out, _, rfl, ⟨rfl, rfl, rfl, rfl, rfl, rfl⟩, _, rfl, HP'.out.ctx.go HBel2.out.drew, HG'.out, HS'.out, HB2.out.keep ((Below.refl _ _).drew), HP'.out.below.trans HBel2.out.drew⟩
        · refine ⟨_, rfl, ?_⟩
          rintro n _ wr ⟨xs, rfl, hF, hn, pc, p, arg, e13, e14, e15, h⟩ H
          obtain ⟨hl, e0, e1, e2, e10, e11⟩ := hF
          rw [fr401 xs hl, e0, e1, e2, e10, e11, e13, e14, e15]
          refine wp_seq_k fun KK hKK => ?_
          have HKK := Lib.hid (fun a' w' => (fun h => hKK a' w' (wp_seq (wp_label (H _ a' w' rfl h)))))
          clear hKK H
          rcases h with ⟨_, rfl, c', pos', rfl, hctl, hA⟩ | h | h
          · have HA' := Lib.hid hA
            have hgd := hA.good.at_
            rw [hctl] at hgd
            have HV := Lib.hid (tVisit hA.bs pc pos' hgd.1 hgd.2.1 hA.ctx.len hA.ctx.pg.len)
            have HC' := Lib.hid hctl
            obtain ⟨m, d, rfl, hd, hsd⟩ := steps_inv hA.steps (by rw [hctl]; intro b h; cases h)
            have hgood := hA.good.step HC.out.tab rfl HC.out.ok hd
            have hcfg : c' = ⟨.chk pc pos', c'.jobs, c'.vis, c'.cap⟩ := by
              obtain ⟨ctl, J', V', C'⟩ := c'
              have h2 : ctl = .chk pc pos' := hctl
              subst h2; rfl
            have HG' := Lib.hid hgood
            have HS' := Lib.hid hsd
            have HN := Lib.hid hn
            rw [hcfg] at hd
            clear hgood hsd hA hgd hctl HBS HA hcfg hn
            cases hv : c'.vis pc pos' with
            | true =>
              simp only [mstep, hv, if_true, Option.some.injEq] at hd
              subst hd
              simp only [hv, if_true, Bool.not_true] at HV
              clear hv
              go_wp2_with (go_at_call 97; refine HV.out.mono ?_; rintro e w2 ⟨rfl, hbs2, hbel2⟩)
              refine ⟨rfl, m, HN.out, _, rfl, ⟨rfl, rfl, rfl, rfl, rfl, rfl⟩, _, rfl, HA'.out.ctx.go hbel2, HG'.out, HS'.out, hbs2, HA'.out.below.trans hbel2⟩
            | false =>
              simp only [mstep, hv, Bool.false_eq_true, if_false, Option.some.injEq] at hd
              subst hd
              simp only [hv, Bool.false_eq_true, if_false, Bool.not_false] at HV
              clear hv
              go_wp2_with (go_at_call 97; refine HV.out.mono ?_; rintro e w2 ⟨rfl, hbs2, hbel2⟩)
              refine HKK.out _ _ ⟨_, rfl, ⟨rfl, rfl, rfl, rfl, rfl, rfl⟩, HN.out, pc, _, _, rfl, rfl, rfl, .inr (.inl ⟨rfl, rfl, _, pos', rfl, rfl, m, Nat.lt_succ_self _, HA'.out.ctx.go hbel2, HG'.out, HS'.out, hbs2, HA'.out.below.trans hbel2⟩)⟩
          · exact absurd h.1 (by decide)
          · exact absurd h.1 (by decide)
end Go.Proofs.YthejepmnnpmdmaaGreatDoor.Sv
end
section
set_option linter.unusedVariables false
set_option linter.unusedSimpArgs false
/- the search's state laid out anew: reset -/
namespace Go.Proofs.YthejepmnnpmdmaaGreatDoor.Sv
open Go Go.RowKit Rx
set_option maxRecDepth 100000
theorem info91 : (Tryz.prog.info? 92).map (fun i => (i.zero, i.size, i.bytes)) = some (some (.int .u32 0), 1, 4) := by kernel_rfl
theorem info3 : (Tryz.prog.info? 3).map (fun i => (i.zero, i.size, i.bytes)) = some (some (.int .i64 0), 1, 8) := by kernel_rfl
theorem mkJ : ∃ Z : Array Value, Z.size = 768 ∧ ∀ w : World, (Instr.makeSlice 148 (.int .i64 0) (.int .i64 256)).run Tryz.prog w = .ok (.slice (some ⟨w.heap.size, 0, none⟩) 0 256) (w.alloc (.cells Z 171)) := by
  obtain ⟨i0, hi, hz0, hz1, hz2⟩ := info_parts info181
  refine ⟨madeCells (Value.agg #[.int .u32 0, .bool false, .int .i64 0]).cells (256 * i0.size), by rw [size_madeCells, hz1], fun w => ?_⟩
  exact run_makeSlice w 148 171 i0 _ Tryz.underlying148 hi hz0 .i64 .i64 0 256 (by decide) (by decide) (by rw [hz1]; decide) (by rw [hz2]; decide) (by decide)
theorem mkV : ∃ Z : Array Value, Z.size = 8192 ∧ (∀ i, i < 8192 → Z[i]? = some (.int .u32 0)) ∧ ∀ (n : Nat) (_ : n ≤ 8192) (w : World), (Instr.makeSlice 86 (.int .i64 n) (.int .i64 8192)).run Tryz.prog w = .ok (.slice (some ⟨w.heap.size, 0, none⟩) n 8192) (w.alloc (.cells Z 92)) := by
  obtain ⟨i0, hi, hz0, hz1, hz2⟩ := info_parts info91
  refine ⟨madeCells #[.int .u32 0] 8192, by rw [size_madeCells], fun i h => ?_, fun n hn w => ?_⟩
  · rw [← Array.getElem?_toList, toList_madeCells_one, List.getElem?_replicate, if_pos h]
  · have h := run_makeSlice (P := Tryz.prog) w 86 92 i0 _ Tryz.underlying86 hi hz0 .i64 .i64 n 8192 (by omega) (by omega) (by rw [hz1]; decide) (by rw [hz2]; decide) (by decide)
    rw [hz1] at h
    simpa [Value.cells] using h
theorem mkC (n : Nat) (hn : n ≤ 1000) (w : World) : (Instr.makeSlice 119 (.int .i64 n) (.int .i64 n)).run Tryz.prog w = .ok (.slice (some ⟨w.heap.size, 0, none⟩) n n) (w.alloc (.cells (madeCells #[.int .i64 0] n) 3)) :=
  run_make_row' 119 3 (.int .i64 0) 8 Tryz.underlying119 info3 rfl .i64 .i64 n (by omega) (by omega) w
/-- a row that is being filled -/
def fillc (i n : Nat) : Array Value := (ints (List.replicate i (-1) ++ List.replicate (n - i) 0)).toArray
theorem fillc_zero (n : Nat) : fillc 0 n = madeCells #[.int .i64 0] n := by
  apply Array.ext'
  rw [toList_madeCells_one]
  simp [fillc, ints]
theorem fillc_set (i n : Nat) (h : i < n) : (fillc i n).setIfInBounds i (.int .i64 (-1)) = fillc (i + 1) n := by
  unfold fillc ints
  rw [List.setIfInBounds_toArray]
  congr 1
  apply List.ext_getElem?
  intro j
  rw [List.getElem?_set]
  by_cases e : i = j
  · subst e
    rw [if_pos rfl, if_pos (by simp; omega)]
    rw [List.getElem?_map, List.getElem?_append_left (by simp)]
    simp
  · rw [if_neg e]
    simp only [List.getElem?_map]
    congr 1
    by_cases c : j < i
    · rw [List.getElem?_append_left (by simpa using c), List.getElem?_append_left (by simp; omega)]
      simp [c, Nat.lt_succ_of_lt c]
    · rw [List.getElem?_append_right (by simp; omega), List.getElem?_append_right (by simp; omega)]
      simp only [List.length_replicate, List.getElem?_replicate]
      by_cases d : j < n
      · rw [if_pos (by omega), if_pos (by omega)]
      · rw [if_neg (by omega), if_neg (by omega)]
theorem fillc_full (n : Nat) : fillc n n = (ints (List.replicate n (-1))).toArray := by simp [fillc]
structure Fill (wA wr : World) (CB i n : Nat) : Prop where
  grown : wA.grownBy wr (some CB)
  row : 0 < n → wr.heap[CB]? = some (.cells (fillc i n) 3 (0, 0))
theorem Fill.step {wA wr : World} {CB i n : Nat} (h : Fill wA wr CB i n) (hi : i < n) : Fill wA (wr.setCell ⟨CB, i, none⟩ (.int .i64 (-1))) CB (i + 1) n := by
  refine ⟨⟨h.grown.os, h.grown.tape, h.grown.output, by simpa using h.grown.size, fun k hk hne => ?_⟩, fun h0 => ?_⟩
  · rw [heap_setCell_other _ _ _ _ (fun e => hne (by rw [e]))]
    exact h.grown.block k hk hne
  · rw [heap_setCell_same wr CB i _ 3 _ (h.row h0), fillc_set i n hi]
theorem Fill.cell {wA wr : World} {CB i n : Nat} (h : Fill wA wr CB i n) (hi : i < n) : (∃ u, wr.cell? ⟨CB, i, none⟩ = some u) ∧ wr.frozen? ⟨CB, i, none⟩ = false := by
  refine ⟨⟨(fillc i n)[i]'(by simp [fillc, ints]; omega), by rw [cell_of_row _ _ _ _ _ _ (h.row (by omega))]; exact Array.getElem?_eq_getElem _⟩, frozen_of_row _ _ _ _ _ (h.row (by omega))⟩
theorem Fill.keep {wA wr : World} {CB i n B : Nat} {cs : Array Value} {t : TypeId} {f : Nat × Nat} (h : Fill wA wr CB i n) (hb : wA.heap[B]? = some (.cells cs t f)) (hne : B ≠ CB) : wr.heap[B]? = some (.cells cs t f) :=
  (h.grown.block B (Array.getElem?_eq_some_iff.1 hb).1 (fun e => hne (by injection e))).trans hb
theorem phaseA (w : World) (base B vn : Nat) (s : ByteArray) (ZJ ZV : Array Value) (hb : w.heap[B]? = some (.cells #[.int .i64 0, .slice none 0 0, .slice none 0 0, .slice none 0 0, .slice none 0 0, .string s] 152 (0, 0))) (hbase : base ≤ B) (W : World)
    (hW : (((((w.setCell ⟨B, 0, none⟩ (.int .i64 s.size)).setCell ⟨B, 3, none⟩ (.slice (some ⟨w.heap.size, 0, none⟩) 0 256)).setCell ⟨B, 4, none⟩ (.slice (some ⟨w.heap.size + 1, 0, none⟩) vn 8192)).alloc (.cells ZJ 171)).alloc (.cells ZV 92)) = W) :
    W.heap[B]? = some (.cells #[.int .i64 s.size, .slice none 0 0, .slice none 0 0, .slice (some ⟨w.heap.size, 0, none⟩) 0 256, .slice (some ⟨w.heap.size + 1, 0, none⟩) vn 8192, .string s] 152 (0, 0)) ∧
    W.heap[w.heap.size]? = some (.cells ZJ 171 (0, 0)) ∧ W.heap[w.heap.size + 1]? = some (.cells ZV 92 (0, 0)) ∧ W.heap.size = w.heap.size + 2 ∧ Below base w W := by
  subst hW
  have hlt : B < w.heap.size := (Array.getElem?_eq_some_iff.1 hb).1
  have h1 := heap_setCell_same w B 0 _ 152 (.int .i64 s.size) hb
  have h2 := heap_setCell_same _ B 3 _ 152 (.slice (some ⟨w.heap.size, 0, none⟩) 0 256) h1
  have h3 := heap_setCell_same _ B 4 _ 152 (.slice (some ⟨w.heap.size + 1, 0, none⟩) vn 8192) h2
  generalize hY : ((w.setCell ⟨B, 0, none⟩ (.int .i64 s.size)).setCell ⟨B, 3, none⟩ (.slice (some ⟨w.heap.size, 0, none⟩) 0 256)).setCell ⟨B, 4, none⟩ (.slice (some ⟨w.heap.size + 1, 0, none⟩) vn 8192) = Y at *
  have hYs : Y.heap.size = w.heap.size := by rw [← hY]; simp
  have hYb : Below base w Y := by rw [← hY]; exact (((Below.refl base w).setCell (p := ⟨B, 0, none⟩) hbase _).setCell (p := ⟨B, 3, none⟩) hbase _).setCell (p := ⟨B, 4, none⟩) hbase _
  have a1 : (Y.alloc (.cells ZJ 171)).heap.size = w.heap.size + 1 := by simp [hYs]
  refine ⟨?_, ?_, ?_, by simp [hYs], ((hYb.alloc (by omega) _).alloc (by rw [a1]; omega) _)⟩
  · rw [Below.heap_alloc _ _ B (by rw [a1]; omega), Below.heap_alloc _ _ B (by omega), h3]
    rfl
  · rw [Below.heap_alloc _ _ _ (by rw [a1]; omega), ← hYs]
    exact heap_alloc_new Y _
  · rw [← a1]
    exact heap_alloc_new _ _
theorem phaseB (w : World) (base B i c nc : Nat) (ZC : Array Value) (cs : Array Value) (hb : w.heap[B]? = some (.cells cs 152 (0, 0))) (hB : B < w.heap.size) (hbase : base ≤ B) (hsz : base ≤ w.heap.size) (X : World) 
    (hX : (w.setCell ⟨B, i, none⟩ (.slice (some ⟨w.heap.size, 0, none⟩) nc nc)).alloc (.cells ZC 3) = X) :
    X.heap[B]? = some (.cells (cs.setIfInBounds i (.slice (some ⟨w.heap.size, 0, none⟩) nc nc)) 152 (0, 0)) ∧ X.heap[w.heap.size]? = some (.cells ZC 3 (0, 0)) ∧ X.heap.size = w.heap.size + 1 ∧ (∀ k, k < w.heap.size → k ≠ B → X.heap[k]? = w.heap[k]?) ∧ Below base w X := by
  subst hX
  have h1 := heap_setCell_same w B i _ 152 (.slice (some ⟨w.heap.size, 0, none⟩) nc nc) hb
  have ho : ∀ k, k ≠ B → (w.setCell ⟨B, i, none⟩ (.slice (some ⟨w.heap.size, 0, none⟩) nc nc)).heap[k]? = w.heap[k]? := fun k hk => heap_setCell_other _ _ _ _ hk
  generalize hY : w.setCell ⟨B, i, none⟩ (.slice (some ⟨w.heap.size, 0, none⟩) nc nc) = Y at *
  have hYs : Y.heap.size = w.heap.size := by rw [← hY]; simp
  have hYb : Below base w Y := by rw [← hY]; exact (Below.refl base w).setCell (p := ⟨B, i, none⟩) hbase _
  refine ⟨by rw [Below.heap_alloc _ _ B (by omega)]; exact h1, by rw [← hYs]; exact heap_alloc_new Y _, by simp [hYs], fun k hk hne => ?_, hYb.alloc (by omega) _⟩
  rw [Below.heap_alloc _ _ k (by omega)]
  exact ho k hne
set_option maxHeartbeats 400000 in
theorem tReset (w : World) (base B PB IB icap L nc : Nat) (s : ByteArray) (hb : w.heap[B]? = some (.cells #[.int .i64 0, .slice none 0 0, .slice none 0 0, .slice none 0 0, .slice none 0 0, .string s] 152 (0, 0))) (hbase : base ≤ B)
    (p0 : w.cell? ⟨PB, 0, none⟩ = some (.slice (some ⟨IB, 0, none⟩) L icap)) (hL0 : 0 < L) (hL : L ≤ 1000) (hs : s.size ≤ 1000000) (hfit : L * (s.size + 1) ≤ 262144) (hnc : nc ≤ 1000) (hne : PB ≠ B) :
    Calls Tryz.prog 83 #[.pointer (some ⟨B, 0, none⟩), .pointer (some ⟨PB, 0, none⟩), .int .i64 s.size, .int .i64 nc] w fun e w' => (∃ v, e = .returned v) ∧ Below base w w' ∧
      ∃ CB MB VB vn, BS w' base B CB MB VB vn L s [] (fun _ _ => false) (List.replicate nc (-1)) (List.replicate nc (-1)) := by
  obtain ⟨ZJ, hZJ, mJ⟩ := mkJ
  obtain ⟨ZV, hZV, hZV0, mV⟩ := mkV
  obtain ⟨p, hp⟩ : ∃ p, p = L * (s.size + 1) := ⟨_, rfl⟩
  obtain ⟨vn, hvn⟩ : ∃ vn, vn = (p + 31) / 32 := ⟨_, rfl⟩
  have hp0 : 0 < p := by rw [hp]; exact Nat.mul_pos hL0 (by omega)
  rw [← hp] at hfit
  have q0 : (L : Int) * ((s.size : Int) + 1) = (p : Int) := by rw [hp]; push_cast; rfl
  have q1 : IntKind.i64.wrap ((L : Int) * ((s.size : Int) + 1)) = (p : Int) := by rw [q0, IntKind.wrap_i64]; omega
  have q2 : ((p : Int) + 32 - 1).tdiv 32 = (vn : Int) := by rw [Int.tdiv_eq_ediv_of_nonneg (by omega)]; omega
  have hpi : (p : Int) ≤ 262144 := by omega
  have hvl : vn ≤ 8192 := by omega
  have hfit2 : L * (s.size + 1) ≤ 32 * vn := by rw [← hp]; omega
  have hv0 : 0 < vn := by omega
  have hv1 : (vn : Int) ≤ 8192 := by omega
  replace mV := mV vn hvl
  have mC := mkC nc hnc
  obtain ⟨ZC, hZC⟩ : ∃ ZC, ZC = madeCells #[.int .i64 0] nc := ⟨_, rfl⟩
  rw [← hZC] at mC
  have hPs : PB < w.heap.size := Lib.lt_of_cell p0
  have hne' : ¬ PB = B := hne
  have hBs : B < w.heap.size := (Array.getElem?_eq_some_iff.1 hb).1
  have b0 : w.cell? ⟨B, 0, none⟩ = some (.int .i64 0) := cell_of_row _ _ 0 _ _ _ hb
  have b1 : w.cell? ⟨B, 1, none⟩ = some (.slice none 0 0) := cell_of_row _ _ 1 _ _ _ hb
  have b2 : w.cell? ⟨B, 2, none⟩ = some (.slice none 0 0) := cell_of_row _ _ 2 _ _ _ hb
  have b3 : w.cell? ⟨B, 3, none⟩ = some (.slice none 0 0) := cell_of_row _ _ 3 _ _ _ hb
  have b4 : w.cell? ⟨B, 4, none⟩ = some (.slice none 0 0) := cell_of_row _ _ 4 _ _ _ hb
  have f0 : w.frozen? ⟨B, 0, none⟩ = false := frozen_of_row _ _ _ _ _ hb
  have f1 : w.frozen? ⟨B, 1, none⟩ = false := frozen_of_row _ _ _ _ _ hb
  have f2 : w.frozen? ⟨B, 2, none⟩ = false := frozen_of_row _ _ _ _ _ hb
  have f3 : w.frozen? ⟨B, 3, none⟩ = false := frozen_of_row _ _ _ _ _ hb
  have f4 : w.frozen? ⟨B, 4, none⟩ = false := frozen_of_row _ _ _ _ _ hb
  have HB := Lib.hid hb
  have HZ := Lib.hid (And.intro hZJ (And.intro hZV hZV0))
  have HV := Lib.hid (And.intro hvl hfit2)
  have hvi : (0 : Int) < (vn : Int) := by omega
  have HZC := Lib.hid hZC
  clear hZC hb hZJ hZV hZV0 hvl hfit2 hvn hfit hp hp0 q0
  rcases Nat.eq_zero_or_pos nc with rfl | hpos
  · go_enter Tryz.func83, Tryz.ntmps83
    go_upto_region 9 with fail
    generalize hW : ((World.alloc _ _).alloc _) = W
    obtain ⟨hWB, hWJ, hWV, hWs, hWb⟩ := phaseA w base B vn s ZJ ZV HB.out hbase W hW
    clear hW
    have hBW : B < W.heap.size := by omega
    have w1 : W.cell? ⟨B, 1, none⟩ = some (.slice none 0 0) := cell_of_row _ _ 1 _ _ _ hWB
    have w2 : W.cell? ⟨B, 2, none⟩ = some (.slice none 0 0) := cell_of_row _ _ 2 _ _ _ hWB
    have g1 : W.frozen? ⟨B, 1, none⟩ = false := frozen_of_row _ _ _ _ _ hWB
    have g2 : W.frozen? ⟨B, 2, none⟩ = false := frozen_of_row _ _ _ _ _ hWB
    have HWB := Lib.hid (And.intro hWB (And.intro hWJ hWV))
    have HWs := Lib.hid (And.intro hWs hWb)
    clear hWB hWJ hWV hWs hWb
    go_upto_region 12 with fail
    generalize hX : World.setCell W _ _ = X
    have hXB : X.heap[B]? = some (.cells #[.int .i64 s.size, .slice none 0 0, .slice none 0 0, .slice (some ⟨w.heap.size, 0, none⟩) 0 256, .slice (some ⟨w.heap.size + 1, 0, none⟩) vn 8192, .string s] 152 (0, 0)) := by
      rw [← hX, heap_setCell_same W B 1 _ 152 _ HWB.out.1]; rfl
    have hXo : ∀ k, k ≠ B → X.heap[k]? = W.heap[k]? := fun k hk => by rw [← hX]; exact heap_setCell_other _ _ _ _ hk
    have hXs : X.heap.size = W.heap.size := by rw [← hX]; simp
    have hXb : Below base w X := by rw [← hX]; exact HWs.out.2.setCell (p := ⟨B, 1, none⟩) hbase _
    have x1 : X.cell? ⟨B, 1, none⟩ = some (.slice none 0 0) := cell_of_row _ _ 1 _ _ _ hXB
    have x2 : X.cell? ⟨B, 2, none⟩ = some (.slice none 0 0) := cell_of_row _ _ 2 _ _ _ hXB
    have h2 : X.frozen? ⟨B, 2, none⟩ = false := frozen_of_row _ _ _ _ _ hXB
    have HXB := Lib.hid (And.intro hXB (And.intro hXo (And.intro hXs hXb)))
    clear hX hXB hXo hXs hXb
    go_wp2
    go_loopw [95] (fun i wr => i = .int .i64 0 ∧ wr = X) (fun i _ => 0)
    case atStart => exact ⟨rfl, rfl⟩
    case round =>
      obtain ⟨rfl, rfl⟩ := hrel
      go_upto_region 20 with fail
      generalize hY : World.setCell wr _ _ = Y
      have hYB : Y.heap[B]? = some (.cells #[.int .i64 s.size, .slice none 0 0, .slice none 0 0, .slice (some ⟨w.heap.size, 0, none⟩) 0 256, .slice (some ⟨w.heap.size + 1, 0, none⟩) vn 8192, .string s] 152 (0, 0)) := by
        rw [← hY, heap_setCell_same wr B 2 _ 152 _ HXB.out.1]; rfl
      have hYo : ∀ k, k ≠ B → Y.heap[k]? = wr.heap[k]? := fun k hk => by rw [← hY]; exact heap_setCell_other _ _ _ _ hk
      have hYs : Y.heap.size = wr.heap.size := by rw [← hY]; simp
      have hYb : Below base w Y := by rw [← hY]; exact HXB.out.2.2.2.setCell (p := ⟨B, 2, none⟩) hbase _
      have y2 : Y.cell? ⟨B, 2, none⟩ = some (.slice none 0 0) := cell_of_row _ _ 2 _ _ _ hYB
      have HYB := Lib.hid (And.intro hYB (And.intro hYo (And.intro hYs hYb)))
      clear hY hYB hYo hYs hYb
      generalize hww : wr = w3 at *
      clear hww
      go_wp2
      go_loopw [131] (fun i wr => i = .int .i64 0 ∧ wr = Y) (fun i _ => 0)
      case atStart => exact ⟨rfl, rfl⟩
      case round =>
        obtain ⟨rfl, rfl⟩ := hrel
        go_wp2
        go_end0
        have hXs := HXB.out.2.2.1
        have hYs := HYB.out.2.2.1
        have hws := HWs.out.1
        have keepW : ∀ k o, k ≠ B → W.heap[k]? = some o → wr.heap[k]? = some o := fun k o hne h => by rw [HYB.out.2.1 k hne, HXB.out.2.1 k hne]; exact h
        refine ⟨⟨_, rfl⟩, HYB.out.2.2.2, w.heap.size + 2, w.heap.size + 3, w.heap.size + 1, vn, ?_⟩
        refine ⟨⟨.slice (some ⟨w.heap.size, 0, none⟩) 0 256, HYB.out.1, ?_⟩, fun h => absurd h (by simp), fun h => absurd h (by simp), ?_, ?_, hbase, ?_, ?_, ?_, ?_⟩
        · exact ⟨rfl, .inr ⟨w.heap.size, 256, ZJ, rfl, by omega, keepW _ _ (by omega) HWB.out.2.1, Nat.zero_le _, by decide, HZ.out.1, rfl⟩⟩
        · exact ⟨⟨ZV, fun _ => 0, keepW _ _ (by omega) HWB.out.2.2, HZ.out.2.1, fun i hi => HZ.out.2.2 i (by have := HV.out.1; omega), fun _ => by show 0 < 4294967296; decide, fun p q _ _ => by simp⟩, HV.out.1, HV.out.2⟩
        all_goals omega
  · have hni : (0 : Int) < (nc : Int) := by omega
    go_enter Tryz.func83, Tryz.ntmps83
    go_upto_region 9 with fail
    generalize hW : ((World.alloc _ _).alloc _) = W
    obtain ⟨hWB, hWJ, hWV, hWs, hWb⟩ := phaseA w base B vn s ZJ ZV HB.out hbase W hW
    clear hW
    have hBW : B < W.heap.size := by omega
    have w1 : W.cell? ⟨B, 1, none⟩ = some (.slice none 0 0) := cell_of_row _ _ 1 _ _ _ hWB
    have w2 : W.cell? ⟨B, 2, none⟩ = some (.slice none 0 0) := cell_of_row _ _ 2 _ _ _ hWB
    have g1 : W.frozen? ⟨B, 1, none⟩ = false := frozen_of_row _ _ _ _ _ hWB
    have HWB := Lib.hid (And.intro hWB (And.intro hWJ hWV))
    have HWs := Lib.hid (And.intro hWs hWb)
    clear hWB hWJ hWV hWs hWb
    go_upto_region 12 with fail
    generalize hX : World.alloc _ _ = X
    obtain ⟨hXB, hXC, hXs, hXk, hXb⟩ := phaseB W base B 1 W.heap.size nc ZC _ HWB.out.1 hBW hbase (by have := HWs.out.2.size; have := HWs.out.1; omega) X hX
    clear hX
    simp only [List.setIfInBounds_toArray, List.set_cons_succ, List.set_cons_zero] at hXB
    have x1 : X.cell? ⟨B, 1, none⟩ = some (.slice (some ⟨W.heap.size, 0, none⟩) nc nc) := cell_of_row _ _ 1 _ _ _ hXB
    have HXB := Lib.hid hXB
    have HXC := Lib.hid (And.intro hXC (And.intro hXk (And.intro hXs hXb)))
    clear hXB hXC hXs hXk hXb
    go_wp2
    go_loopw [95] (fun i wr => ∃ n : Nat, i = .int .i64 n ∧ Hid (n ≤ nc ∧ Fill X wr W.heap.size n nc)) (fun i _ => 2000 - (intOf i).toNat)
    case atStart => exact ⟨0, rfl, Lib.hid ⟨Nat.zero_le _, ⟨rfl, rfl, rfl, Nat.le_refl _, fun k _ _ => rfl⟩, fun _ => by rw [fillc_zero, ← HZC.out]; exact HXC.out.1⟩⟩
    case round =>
      obtain ⟨n, rfl, HF⟩ := hrel
      have y1 : wr.cell? ⟨B, 1, none⟩ = some (.slice (some ⟨W.heap.size, 0, none⟩) nc nc) := cell_of_row _ _ 1 _ _ _ (HF.out.2.keep HXB.out (by omega))
      by_cases c : n < nc
      · have c1 : (n : Int) < (nc : Int) := by omega
        obtain ⟨⟨u, hu⟩, hf⟩ := HF.out.2.cell c
        have HC := Lib.hid c
        clear c
        go_wp2
        go_roundw
        case measure => simp [intOf]; have := HC.out; omega
        case rel => exact ⟨n + 1, by go_num, Lib.hid ⟨by have := HC.out; omega, HF.out.2.step HC.out⟩⟩
      · have hn : n = nc := by have := HF.out.1; omega
        subst hn
        have hFB := HF.out.2.keep HXB.out (by omega)
        have y2 : wr.cell? ⟨B, 2, none⟩ = some (.slice none 0 0) := cell_of_row _ _ 2 _ _ _ hFB
        have h2 : wr.frozen? ⟨B, 2, none⟩ = false := frozen_of_row _ _ _ _ _ hFB
        have hwz : B < wr.heap.size := Lib.lt_of_cell y1
        have HFB := Lib.hid hFB
        clear c hFB
        go_upto_region 20 with fail
        generalize hY : World.alloc _ _ = Y
        have hXs := HXC.out.2.2.1
        have hgs := HF.out.2.grown.size
        have hWs := HWs.out.1
        obtain ⟨hYB, hYC, hYs, hYk, hYb⟩ := phaseB wr base B 2 wr.heap.size n ZC _ HFB.out hwz hbase (by omega) Y hY
        clear hY
        simp only [List.setIfInBounds_toArray, List.set_cons_succ, List.set_cons_zero] at hYB
        have z1 : Y.cell? ⟨B, 2, none⟩ = some (.slice (some ⟨wr.heap.size, 0, none⟩) n n) := cell_of_row _ _ 2 _ _ _ hYB
        have HYB := Lib.hid hYB
        have HYC := Lib.hid (And.intro hYC (And.intro hYk (And.intro hYs hYb)))
        have HWR := Lib.hid (And.intro HF.out.2 (And.intro hgs hXs))
        have hne2 : B ≠ wr.heap.size := by omega
        clear hYB hYC hYs hYk hYb hXs hgs HF
        generalize hwrr : wr = w3 at *
        clear hwrr
        go_wp2
        go_loopw [131] (fun i wr => ∃ m : Nat, i = .int .i64 m ∧ Hid (m ≤ n ∧ Fill Y wr w3.heap.size m n)) (fun i _ => 2000 - (intOf i).toNat)
        case atStart => exact ⟨0, rfl, Lib.hid ⟨Nat.zero_le _, ⟨rfl, rfl, rfl, Nat.le_refl _, fun k _ _ => rfl⟩, fun _ => by rw [fillc_zero, ← HZC.out]; exact HYC.out.1⟩⟩
        case round =>
          obtain ⟨m, rfl, HF⟩ := hrel
          have y1 : wr.cell? ⟨B, 2, none⟩ = some (.slice (some ⟨w3.heap.size, 0, none⟩) n n) := cell_of_row _ _ 2 _ _ _ (HF.out.2.keep HYB.out hne2)
          by_cases c : m < n
          · have c1 : (m : Int) < (n : Int) := by omega
            obtain ⟨⟨u, hu⟩, hf⟩ := HF.out.2.cell c
            have HC := Lib.hid c
            clear c
            go_wp2
            go_roundw
            case measure => simp [intOf]; have := HC.out; omega
            case rel => exact ⟨m + 1, by go_num, Lib.hid ⟨by have := HC.out; omega, HF.out.2.step HC.out⟩⟩
          · have hn : m = n := by have := HF.out.1; omega
            subst hn
            clear c
            go_wp2
            go_end0
            have hn2 := HF.out.2.grown.size
            have hB2 : base ≤ W.heap.size := by have := HWs.out.1; omega
            have hYs := HYC.out.2.2.1
            have hFs := HWR.out.2.1
            have hXs := HWR.out.2.2
            have hws := HWs.out.1
            have hB3 : base ≤ w3.heap.size := by omega
            refine ⟨⟨_, rfl⟩, ?_, W.heap.size, w3.heap.size, w.heap.size + 1, vn, ?_⟩
            · exact (((HWs.out.2.trans HXC.out.2.2.2).grown HWR.out.1.grown (by omega) (fun k hk => by injection hk with hk; omega)).trans HYC.out.2.2.2).grown HF.out.2.grown (by omega) (fun k hk => by injection hk with hk; omega)
            · have keepW : ∀ k o, k < W.heap.size → k ≠ B → W.heap[k]? = some o → wr.heap[k]? = some o := fun k o hk hne h => by
                rw [HF.out.2.grown.block k (by omega) (by intro e; injection e with e; omega), HYC.out.2.1 k (by omega) hne, HWR.out.1.grown.block k (by omega) (by intro e; injection e with e; omega), HXC.out.2.1 k hk hne]
                exact h
              have hb := HF.out.2.keep HYB.out hne2
              have hsl : ∀ b, sl b m = .slice (some ⟨b, 0, none⟩) m m := fun b => by unfold sl; rw [if_neg (by omega)]
              refine ⟨⟨.slice (some ⟨w.heap.size, 0, none⟩) 0 256, ?_, ?_⟩, fun _ => ?_, fun _ => ?_, ?_, ?_, hbase, hB2, hB3, ?_, ?_⟩
              · rw [List.length_replicate, hsl, hsl]; exact hb
              · refine ⟨rfl, .inr ⟨w.heap.size, 256, ZJ, rfl, by omega, keepW _ _ (by omega) (by omega) HWB.out.2.1, Nat.zero_le _, by decide, HZ.out.1, rfl⟩⟩
              · rw [HF.out.2.grown.block _ (by omega) (by intro e; injection e with e; omega), HYC.out.2.1 _ (by omega) (by omega), HWR.out.1.row (by omega), fillc_full]
              · rw [HF.out.2.row (by omega), fillc_full]
              · exact ⟨⟨ZV, fun _ => 0, keepW _ _ (by omega) (by omega) HWB.out.2.2, HZ.out.2.1, fun i hi => HZ.out.2.2 i (by have := HV.out.1; omega), fun _ => by show 0 < 4294967296; decide, fun p q _ _ => by simp⟩, HV.out.1, HV.out.2⟩
              · omega
              · omega
              · omega
end Go.Proofs.YthejepmnnpmdmaaGreatDoor.Sv
end
section
set_option linter.unusedVariables false
set_option linter.unusedSimpArgs false
/- a match is laid behind a slice; the search from one place, as the program calls it -/
namespace Go.Proofs.YthejepmnnpmdmaaGreatDoor.Sv
open Go Go.RowKit Rx
set_option maxRecDepth 100000
/-- the compiled expression's other fields -/
structure RH (w : World) (R PB : Nat) (cond : Int) (start ncap minl nsub : Nat) : Prop where
  cond : w.cell? ⟨R, 13, none⟩ = some (.int .u8 cond)
  pre : w.cell? ⟨R, 6, none⟩ = some (.string ⟨#[]⟩)
  minl : w.cell? ⟨R, 14, none⟩ = some (.int .i64 minl)
  nsub : w.cell? ⟨R, 3, none⟩ = some (.int .i64 nsub)
  start : w.cell? ⟨PB, 1, none⟩ = some (.int .i64 start)
  ncap : w.cell? ⟨PB, 2, none⟩ = some (.int .i64 ncap)
theorem RH.keep {w w' : World} {R PB : Nat} {cond : Int} {start ncap minl nsub : Nat} (h : RH w R PB cond start ncap minl nsub) (hb : Below w.heap.size w w') : RH w' R PB cond start ncap minl nsub :=
  ⟨keepc hb h.cond, keepc hb h.pre, keepc hb h.minl, keepc hb h.nsub, keepc hb h.start, keepc hb h.ncap⟩
/-- where the places are laid -/
def DstOk (w : World) (base nc : Nat) (dst : Value) : Prop := ∃ g cap, dst = .slice (some ⟨g, 0, none⟩) 0 cap ∧ (nc = 0 ∨ cap < nc ∨ w.ownsRow base 3 1 dst 0 [])
/-- what a find gives -/
def Got (w' : World) (base nc : Nat) (dst v : Value) (r : Option (Nat × List (Nat × Nat))) : Prop := match r with
  | none => v = .slice none 0 0
  | some (p, t) => (nc = 0 → v = dst) ∧ (0 < nc → ∃ g cap, v = .slice (some ⟨g, 0, none⟩) nc cap ∧ w'.ownsRow base 3 1 v nc (ints (applyT t ((List.replicate nc (-1)).set 0 (p : Int)))))
theorem grown_below {w w' : World} (h : Below w.heap.size w w') (row : Option Nat) : w.grownBy w' row := ⟨h.os, h.tape, h.output, h.size, fun k hk _ => h.block k hk⟩
theorem grown_after {w w3 w' : World} {row : Option Nat} (h : Below w.heap.size w w3) (hg : w3.grownBy w' row) : w.grownBy w' row :=
  ⟨hg.os.trans h.os, hg.tape.trans h.tape, hg.output.trans h.output, Nat.le_trans h.size hg.size, fun k hk hne => (hg.block k (Nat.lt_of_lt_of_le hk h.size) hne).trans (h.block k hk)⟩
theorem grown_new {w w' : World} {row : Option Nat} (hg : w.grownBy w' row) (B i : Nat) (v : Value) (hB : w.heap.size ≤ B) : w.grownBy (w'.setCell ⟨B, i, none⟩ v) row :=
  ⟨hg.os, hg.tape, hg.output, by simpa using hg.size, fun k hk hne => by rw [heap_setCell_other _ _ _ _ (show k ≠ B by omega)]; exact hg.block k hk hne⟩
theorem app_eq (w w3 : World) (base nc MB : Nat) (dst : Value) (M : List Int) (hd : DstOk w base nc dst) (hb : Below w.heap.size w w3) (h0 : base ≤ w.heap.size) (hMl : M.length = nc) (hm : 0 < M.length → w3.heap[MB]? = some (.cells (ints M).toArray 3 (0, 0))) (hnc : nc ≤ 1000) :
    ∃ v' w', (Builtin.append_ #[119, 119] 119 #[dst, sl MB M.length]).run Tryz.prog w3 = .ok v' w' ∧ (nc = 0 → v' = dst) ∧ (0 < nc → ∃ g cap, v' = .slice (some ⟨g, 0, none⟩) nc cap ∧ w'.ownsRow base 3 1 v' nc (ints M)) ∧ Below base w w' ∧ w.grownBy w' dst.ownBlock ∧ ∀ k, w.heap.size ≤ k → k < w3.heap.size → w'.heap[k]? = w3.heap[k]? := by
  obtain ⟨g, cap, rfl, hd⟩ := hd
  obtain ⟨i0, hi, hz0, hz1, hz2⟩ := info_parts info3
  have hb' : Below base w w3 := hb.mono h0
  rcases Nat.eq_zero_or_pos nc with hz | hp
  · refine ⟨_, w3, ?_, fun _ => rfl, fun h => by omega, hb', grown_below hb _, fun _ _ _ => rfl⟩
    rw [hMl, hz]
    exact run_append_nothing w3 119 119 119 3 i0 Tryz.underlying119 hi _ 0 cap (Nat.zero_le _) _ (Src.ofNil w3 (e' := 3) Tryz.underlying119 0)
  · have hs : sl MB M.length = .slice (some ⟨MB, 0, none⟩) nc nc := by unfold sl; rw [hMl, if_neg (by omega)]
    rw [hs]
    have hcells : ∀ j u, (ints M)[j]? = some u → w3.cell? ((⟨MB, 0, none⟩ : Addr).add j) = some u := fun j u h => by
      have e : (⟨MB, 0, none⟩ : Addr).add j = ⟨MB, j, none⟩ := by simp [Addr.add]; omega
      rw [e, cell_of_row _ _ _ _ _ _ (hm (by omega)), ← Array.getElem?_toList]
      exact h
    have hone : ∀ u ∈ ints M, u.oneCell' = true := fun u hu => by simp [ints] at hu; obtain ⟨a, _, rfl⟩ := hu; rfl
    have hl : (ints M).length = nc * 1 := by simp [ints, hMl]
    have hsz := hb.size
    by_cases hc : cap < nc
    · obtain ⟨v', w', hr, ho, hg⟩ := run_append_arg_grows (P := Tryz.prog) w3 119 119 3 i0 (.int .i64 0) 1 8 Tryz.underlying119 hi hz0 hz1 hz2 rfl (by decide) ⟨g, 0, none⟩ 0 cap [] rfl (fun j u h => by simp at h) ⟨MB, 0, none⟩ nc nc (ints M) hl hcells (by omega) (by unfold maxLen; omega) (by omega)
      rw [Nat.zero_add, List.nil_append] at ho
      refine ⟨v', w', hr, fun h => by omega, fun _ => ?_, hb'.grown hg (by omega) (fun k h => by cases h), ⟨(grown_after hb hg).os, (grown_after hb hg).tape, (grown_after hb hg).output, (grown_after hb hg).size, fun k hk _ => (grown_after hb hg).block k hk (fun e => by cases e)⟩, fun k _ hk => hg.block k hk (fun e => by cases e)⟩
      obtain ⟨g2, cap2, hv, hb2⟩ := World.ownsRow.form ho (by omega)
      refine ⟨g2, cap2, hv, ?_⟩
      refine ⟨ho.1, ?_⟩
      rcases ho.2 with h | ⟨g', c', cur, e1, e2, e3⟩
      · exact .inl h
      · exact .inr ⟨g', c', cur, e1, by omega, e3⟩
    · have hown0 : w.ownsRow base 3 1 (.slice (some ⟨g, 0, none⟩) 0 cap) 0 [] := by
        rcases hd with h | h | h
        · omega
        · exact absurd h hc
        · exact h
      have hown : w3.ownsRow base 3 1 (.slice (some ⟨g, 0, none⟩) 0 cap) 0 [] := own_of hown0 fun g' cur hg' hcur => hb.block g' (Array.getElem?_eq_some_iff.1 hcur).1
      obtain ⟨v', w', hr, ho, hg, _⟩ := run_append_own (P := Tryz.prog) w3 base 119 119 3 i0 (.int .i64 0) 1 8 Tryz.underlying119 hi hz0 hz1 hz2 rfl (by decide) _ 0 [] hown ⟨MB, 0, none⟩ nc nc (ints M) hl hcells hone (by unfold maxLen; omega) (by omega) (by omega)
      rw [Nat.zero_add, List.nil_append] at ho
      obtain ⟨g2, cap2, hv, _⟩ := World.ownsRow.form ho (by omega)
      exact ⟨v', w', hr, fun h => by omega, fun _ => ⟨g2, cap2, hv, ho⟩, hb'.grown hg (by omega) (fun k h => (hown.lt k h).1), grown_after hb hg, fun k hk hk2 => hg.block k hk2 (fun e => by have := (hown0.lt k e.symm).2; omega)⟩
theorem wpList_append_eq {P : Program} {w : World} {ops : Array Oper} {rest : List Oper} {o : Oper} {a : Act} {Q : Exit → Act → World → Prop} (hgd : o.guard = none) (s x : Operand) (t : TypeId)
    (ho : o.op = .call { callee := .builtin .append, args := #[s, x], argTypes := #[t, t] }) (hty : o.type = t) (vs vx v' : Value) (w' : World) (hs : a.eval s = vs) (hx : a.eval x = vx)
    (hrun : (Builtin.append_ #[t, t] t #[vs, vx]).run P w = .ok v' w') (h : wpList P ops Q rest (a.put o.dst v') w') : wpList P ops Q (o :: rest) a w := by
  refine wpList_plain hgd fun K hK => ?_
  unfold Oper.wp
  simp [execOp, ho, hty, resolve, invoke, builtin, hs, hx, hrun, Result.andThen]
  exact hK _ _ h
/-- what the search stands on -/
structure Sur (w : World) (R PB IB icap : Nat) (T : List I) (s : ByteArray) : Prop where
  pg : PG w R PB IB icap T
  tabs : Lib.Utf8Tabs 11 12 w
  tab : TabOk T
  len : s.size ≤ 1000000
  ok : Rx.Ok (envOf T s) s.size
  emp : ∀ (i o a : Nat), T[i]? = some (.emp o a) → a = 4 ∨ a = 8
  fit : T.length * (s.size + 1) ≤ 262144
theorem Sur.ctx {w w2 : World} {R PB IB icap : Nat} {T : List I} {s : ByteArray} (h : Sur w R PB IB icap T s) (hb : Below w.heap.size w w2) : Ctx w w2 w.heap.size R PB IB icap T s := ⟨rfl, h.pg, h.tabs, hb, h.tab, h.len, h.ok, h.emp⟩
theorem Sur.keep {w w2 : World} {R PB IB icap : Nat} {T : List I} {s : ByteArray} (h : Sur w R PB IB icap T s) (hb : Below w.heap.size w w2) : Sur w2 R PB IB icap T s := ⟨h.pg.keep hb, Utf8Tabs_below h.tabs hb, h.tab, h.len, h.ok, h.emp, h.fit⟩
theorem wrap_u32_small (n : Nat) (h : n < 1000) : IntKind.u32.wrap (n : Int) = (n : Int) := by rw [IntKind.wrap_u32]; omega
theorem tNew (w : World) : Calls Tryz.prog 81 #[] w fun e w' => e = .returned (.pointer (some ⟨w.heap.size, 0, none⟩)) ∧ w' = w.alloc (.cells #[.int .i64 0, .slice none 0 0, .slice none 0 0, .slice none 0 0, .slice none 0 0, .string ⟨#[]⟩] 152) := by
  go_enter Tryz.func81, Tryz.ntmps81
  go_wp2
  go_ret
  exact ⟨rfl, rfl⟩
theorem tInit (w : World) (B : Nat) (s t : ByteArray) (h : w.cell? ⟨B, 5, none⟩ = some (.string t)) (hf : w.frozen? ⟨B, 5, none⟩ = false) :
    Calls Tryz.prog 82 #[.pointer (some ⟨B, 5, none⟩), .nilIface, .slice none 0 0, .string s] w fun e w' => e = .returned (.tuple #[.iface 158 (.pointer (some ⟨B, 5, none⟩)), .int .i64 s.size]) ∧ w' = w.setCell ⟨B, 5, none⟩ (.string s) := by
  go_enter Tryz.func82, Tryz.ntmps82
  go_wp2_with go_in
  exact bodyPost_ret (v := .tuple #[.iface 158 (.pointer (some ⟨B, 5, none⟩)), .int .i64 s.size]) (by simp [results, Tryz.results82, go_sem]) rfl ⟨rfl, rfl⟩
theorem tFree (w : World) (B : Nat) (t : ByteArray) (h : w.cell? ⟨B, 5, none⟩ = some (.string t)) (hf : w.frozen? ⟨B, 5, none⟩ = false) :
    Calls Tryz.prog 85 #[.pointer (some ⟨B, 0, none⟩)] w fun e w' => (∃ v, e = .returned v) ∧ w' = w.setCell ⟨B, 5, none⟩ (.string ⟨#[]⟩) := by
  go_enter Tryz.func85, Tryz.ntmps85
  go_wp2_with go_in
  go_end0
  exact ⟨⟨_, rfl⟩, rfl⟩
theorem BS.f5 {w : World} {base B CB MB VB vn L : Nat} {s : ByteArray} {J : List (Nat × Bool × Int)} {V : Nat → Nat → Bool} {C M : List Int} (h : BS w base B CB MB VB vn L s J V C M) : w.frozen? ⟨B, 5, none⟩ = false := by
  obtain ⟨jv, hb, hj⟩ := h.hb
  exact frozen_of_row _ _ _ _ _ hb
/-- a new state -/
def st0 (s : ByteArray) : Array Value := #[.int .i64 0, .slice none 0 0, .slice none 0 0, .slice none 0 0, .slice none 0 0, .string s]
/-- the state's block, with its text -/
def Blk5 (w : World) (B : Nat) (s : ByteArray) : Prop := ∃ cs : Array Value, w.heap[B]? = some (.cells cs 152 (0, 0)) ∧ cs[5]? = some (.string s)
theorem Blk5.c {w : World} {B : Nat} {s : ByteArray} (h : Blk5 w B s) : w.cell? ⟨B, 5, none⟩ = some (.string s) := by
  obtain ⟨cs, h1, h2⟩ := h
  rw [cell_of_row _ _ 5 _ _ _ h1, h2]
theorem Blk5.f {w : World} {B : Nat} {s : ByteArray} (h : Blk5 w B s) : w.frozen? ⟨B, 5, none⟩ = false := by
  obtain ⟨cs, h1, h2⟩ := h
  exact frozen_of_row _ _ _ _ _ h1
theorem tail_eq {w w3 w4 : World} {B CB MB VB vn L base nc : Nat} {s : ByteArray} {J : List (Nat × Bool × Int)} {V : Nat → Nat → Bool} {C M : List Int} {dst : Value} (h3 : Below B w w3) (h4 : Below B w3 w4) (hbs : BS w4 B B CB MB VB vn L s J V C M) (hd : DstOk w base nc dst) (h0 : base ≤ B) (hB : w.heap.size = B) (hnc : nc ≤ 1000) (hMl : M.length = nc) :
    ∃ v' w', (Builtin.append_ #[119, 119] 119 #[dst, sl MB M.length]).run Tryz.prog w4 = .ok v' w' ∧ (nc = 0 → v' = dst) ∧ (0 < nc → ∃ g cap, v' = .slice (some ⟨g, 0, none⟩) nc cap ∧ w'.ownsRow base 3 1 v' nc (ints M)) ∧ Below base w w' ∧ w.grownBy w' dst.ownBlock ∧ Blk5 w' B s := by
  subst hB
  obtain ⟨v', w', h1, h2, h5, h6, hgr, h7⟩ := app_eq w w4 base nc MB dst M hd (h3.trans h4) h0 hMl (fun h => hbs.hm h) hnc
  obtain ⟨jv, hb, _⟩ := hbs.hb
  have hlt := (Array.getElem?_eq_some_iff.1 hb).1
  have hb' := (h7 _ (Nat.le_refl _) hlt).trans hb
  exact ⟨v', w', h1, h2, h5, h6, hgr, _, hb', rfl⟩
theorem got_set {w' : World} {B base nc p : Nat} {dst v : Value} {t : List (Nat × Nat)} {s : ByteArray} {y : Value} (hc : Blk5 w' B s) (h1 : nc = 0 → v = dst) (h2 : 0 < nc → ∃ g cap, v = .slice (some ⟨g, 0, none⟩) nc cap ∧ w'.ownsRow base 3 1 v nc (ints (applyT t ((List.replicate nc (-1)).set 0 (p : Int))))) :
    Got (w'.setCell ⟨B, 5, none⟩ y) base nc dst v (some (p, t)) := by
  refine ⟨h1, fun h => ?_⟩
  obtain ⟨g, cap, hv, ho⟩ := h2 h
  obtain ⟨cs, h5, _⟩ := hc
  exact ⟨g, cap, hv, own_of ho fun g' cur hg hcur => heap_setCell_other _ _ _ _ (typ_ne hcur h5 (by decide))⟩
theorem tBackA {w : World} {R PB IB icap : Nat} {T : List I} {s : ByteArray} (hS : Sur w R PB IB icap T s) {start ncap minl nsub : Nat} (hR : RH w R PB 4 start ncap minl nsub) (x : I) (hx : T[start]? = some x) (hf : opc x ≠ 5)
    (base nc : Nat) (hnc : nc = 0 ∨ (2 ≤ nc ∧ nc ≤ 1000)) (dst : Value) (hd : DstOk w base nc dst) (h0 : base ≤ w.heap.size) {n : Nat} {r : Res} (hM : FM (envOf T s) n start 0 r) :
    Calls Tryz.prog 70 #[.pointer (some ⟨R, 0, none⟩), .slice none 0 0, .string s, .int .i64 0, .int .i64 nc, dst] w fun e w' => ∃ v, e = .returned v ∧ Got w' base nc dst v (r.map (0, ·)) ∧ Below base w w' ∧ w.grownBy w' dst.ownBlock := by
  have r1 := hS.pg.r1
  have p0 := hS.pg.p0
  have r13 := hR.cond
  have p1 := hR.start
  have hst : start < 1000 := by have := (List.getElem?_eq_some_iff.1 hx).1; have := hS.pg.len; omega
  have hwr := wrap_u32_small start hst
  have HS := Lib.hid hS
  have HR := Lib.hid hR
  have HX := Lib.hid (And.intro hx hf)
  have HN := Lib.hid hnc
  have HD := Lib.hid hd
  have HM := Lib.hid hM
  have hRs : R < w.heap.size := Lib.lt_of_cell r1
  have hPs : PB < w.heap.size := Lib.lt_of_cell p0
  clear hS hR hx hf hnc hd hM
  go_enter Tryz.func70, Tryz.ntmps70
  go_wp2
  apply wp_scope_straight
  have hWc5 : (w.alloc (.cells #[.int .i64 0, .slice none 0 0, .slice none 0 0, .slice none 0 0, .slice none 0 0, .string ⟨#[]⟩] 152)).cell? ⟨w.heap.size, 5, none⟩ = some (.string ⟨#[]⟩) := cell_of_row _ _ 5 _ _ _ (heap_alloc_new w _)
  have hWf5 : (w.alloc (.cells #[.int .i64 0, .slice none 0 0, .slice none 0 0, .slice none 0 0, .slice none 0 0, .string ⟨#[]⟩] 152)).frozen? ⟨w.heap.size, 5, none⟩ = false := frozen_of_row _ _ _ _ _ (heap_alloc_new w _)
  have HI := Lib.hid (tInit _ _ s _ hWc5 hWf5)
  clear hWc5 hWf5
  go_upto_region 8 with (first
    | (go_at_call 81; refine (tNew w).mono ?_; rintro e w1 ⟨rfl, rfl⟩)
    | (go_at_call 82; refine HI.out.mono ?_; rintro e w1 ⟨rfl, rfl⟩))
  generalize hW : w.alloc _ = W
  have hWB : W.heap[w.heap.size]? = some (.cells (st0 s) 152 (0, 0)) := by rw [← hW]; exact heap_alloc_new w _
  have hWb : Below w.heap.size w W := by rw [← hW]; exact (Below.refl _ w).alloc (Nat.le_refl _) _
  clear hW HI
  generalize hB : w.heap.size = B at *
  have hL := HS.out.pg.len
  have hL0 : 0 < T.length := by have := (List.getElem?_eq_some_iff.1 HX.out.1).1; omega
  have HWb := Lib.hid hWb
  have q1 : W.cell? ⟨R, 1, none⟩ = some (.pointer (some ⟨PB, 0, none⟩)) := (hWb.cell (p := ⟨R, 1, none⟩) hRs).trans r1
  have q0 : W.cell? ⟨PB, 0, none⟩ = some (.slice (some ⟨IB, 0, none⟩) T.length icap) := (hWb.cell (p := ⟨PB, 0, none⟩) hPs).trans p0
  have HV := Lib.hid (tReset W B B PB IB icap T.length nc s hWB (Nat.le_refl _) q0 hL0 hL HS.out.len HS.out.fit (by have := HN.out; omega) (by omega))
  clear hWb hWB hL hL0
  go_upto_region 9 with (go_at_call 83; refine HV.out.mono ?_; rintro e w2 ⟨⟨v, rfl⟩, hb2, CB, MB, VB, vn, hbs⟩)
  have HB2 := Lib.hid hb2
  have HBS := Lib.hid hbs
  clear hb2 hbs HV q1 q0
  obtain ⟨C0, hC0⟩ : ∃ C0, C0 = (List.replicate nc (-1)).set 0 (0 : Int) := ⟨_, rfl⟩
  have HC0 := Lib.hid hC0
  have e1 : bits .and .u8 4 4 = 4 := by decide
  have mid : ∀ w3 : World, BS w3 B B CB MB VB vn T.length s [] (fun _ _ => false) C0 (List.replicate nc (-1)) → Below B w w3 → Calls Tryz.prog 84 #[.pointer (some ⟨R, 0, none⟩), .pointer (some ⟨B, 0, none⟩), .iface 158 (.pointer (some ⟨B, 5, none⟩)), .int .u32 start, .int .i64 0] w3 fun e w' =>
      match r with
      | none => e = .returned (.bool false) ∧ (∃ J V, BS w' B B CB MB VB vn T.length s J V C0 (List.replicate nc (-1))) ∧ Below B w3 w'
      | some t => e = .returned (.bool true) ∧ (∃ J V, BS w' B B CB MB VB vn T.length s J V (applyT t C0) (applyT t C0)) ∧ Below B w3 w' := fun w3 h3 hb3 => by
    have ht := tryAt HM.out (fun _ _ => false) C0 (fun _ _ h => by cases h)
    have hc := Sur.ctx HS.out (w2 := w3) (by rw [hB]; exact hb3)
    rw [hB] at hc
    have hl : C0.length = nc := by rw [HC0.out]; simp
    cases r with
    | none =>
      obtain ⟨k, V', _, hst⟩ := ht
      refine (tTry hc h3 start 0 x HX.out.1 HX.out.2 (Nat.zero_le _) hl HN.out rfl k false _ _ _ hst).mono ?_
      rintro e w' ⟨h1, ⟨J, _, h2⟩, h4⟩
      exact ⟨h1, ⟨J, _, by simpa using h2⟩, h4⟩
    | some t =>
      obtain ⟨k, V', J', hst⟩ := ht
      refine (tTry hc h3 start 0 x HX.out.1 HX.out.2 (Nat.zero_le _) hl HN.out rfl k true _ _ _ hst).mono ?_
      rintro e w' ⟨h1, ⟨J, _, h2⟩, h4⟩
      exact ⟨h1, ⟨J, _, by simpa using h2⟩, h4⟩
  have MID := Lib.hid mid
  clear mid hC0
  rcases HN.out with hz | ⟨hz, hz'⟩
  · have b1 : w2.cell? ⟨B, 1, none⟩ = some (.slice none 0 0) := by rw [HBS.out.c1, List.length_replicate, hz]; rfl
    have HZ := Lib.hid hz
    have h3 : BS w2 B B CB MB VB vn T.length s [] (fun _ _ => false) C0 (List.replicate nc (-1)) := by have := HBS.out; rw [HC0.out, hz] at *; exact this
    have H3 := Lib.hid h3
    have hbw : Below B w w2 := HWb.out.trans HB2.out
    have HBW := Lib.hid hbw
    have q1 : w2.cell? ⟨R, 1, none⟩ = some (.pointer (some ⟨PB, 0, none⟩)) := (hbw.cell (p := ⟨R, 1, none⟩) hRs).trans r1
    have q0 : w2.cell? ⟨PB, 1, none⟩ = some (.int .i64 start) := (hbw.cell (p := ⟨PB, 1, none⟩) hPs).trans p1
    clear hz h3 hbw HBS HB2
    go_upto_region 12 with fail
    cases r with
    | none =>
      go_wp2_with (first
        | (go_at_call 84; refine (MID.out _ H3.out HBW.out).mono ?_; rintro e w4 ⟨rfl, ⟨J, V, hbs4⟩, hb4⟩; have H4 := Lib.hid (And.intro hbs4 hb4); clear hbs4 hb4)
        | (go_at_call 85; refine (tFree w4 B s H4.out.1.c5 H4.out.1.f5).mono ?_; rintro e w5 ⟨⟨v5, rfl⟩, rfl⟩))
      change bodyPost Tryz.prog Tryz.f70 (fun e w' => ∃ v, e = .returned v ∧ Got w' base nc dst v (Option.map (0, ·) none) ∧ Below base w w' ∧ w.grownBy w' dst.ownBlock) .ret _ _
      go_ret
      exact ⟨_, rfl, rfl, (((HBW.out.trans H4.out.2)).setCell (p := ⟨B, 5, none⟩) (Nat.le_refl _) _).mono h0, grown_below (by rw [hB]; exact ((HBW.out.trans H4.out.2)).setCell (p := ⟨B, 5, none⟩) (Nat.le_refl _) _) _⟩
    | some t =>
      go_wp2_with (first
        | (go_at_call 84; refine (MID.out _ H3.out HBW.out).mono ?_; rintro e w4 ⟨rfl, ⟨J, V, hbs4⟩, hb4⟩; have H4 := Lib.hid (And.intro hbs4 hb4); have c2 := hbs4.c2; obtain ⟨v5, w5, hr5, e5, e5', hb5, hgr5, hk5⟩ := tail_eq HBW.out hb4 hbs4 HD.out h0 hB (by have := HN.out; omega) (by rw [applyT_length, HC0.out]; simp); have H5 := Lib.hid (And.intro hr5 (And.intro e5 (And.intro e5' (And.intro hb5 (And.intro hgr5 hk5))))); clear hbs4 hb4 hr5 e5 e5' hb5 hgr5 hk5)
        | ((with_reducible refine wpList_append_eq (o := ⟨some 146, _, _, _, _, _⟩) ?a1 (.tmp 141) (.tmp 145) 119 ?a2 ?a3 _ _ _ _ ?a4 ?a5 H5.out.1 ?_); (case a1 => rfl); (case a2 => rfl); (case a3 => rfl); (case a4 => rfl); (case a5 => rfl))
        | (go_at_call 85; refine (tFree w5 B s H5.out.2.2.2.2.2.c H5.out.2.2.2.2.2.f).mono ?_; rintro e w6 ⟨⟨v6, rfl⟩, rfl⟩)
        | apply wp_label)
      change bodyPost Tryz.prog Tryz.f70 (fun e w' => ∃ v, e = .returned v ∧ Got w' base nc dst v (Option.map (0, ·) (some t)) ∧ Below base w w' ∧ w.grownBy w' dst.ownBlock) .ret _ _
      go_ret
      refine ⟨v5, rfl, got_set H5.out.2.2.2.2.2 H5.out.2.1 (by have hh := H5.out.2.2.1; rw [HC0.out] at hh; exact hh) , H5.out.2.2.2.1.setCell (p := ⟨B, 5, none⟩) (by omega) _, grown_new H5.out.2.2.2.2.1 B 5 _ (by omega)⟩
  · have b1 : w2.cell? ⟨B, 1, none⟩ = some (.slice (some ⟨CB, 0, none⟩) nc nc) := by rw [HBS.out.c1, List.length_replicate]; unfold sl; rw [if_neg (by omega)]
    obtain ⟨_, b2, b3⟩ := HBS.out.cg 0 (-1) (by rw [List.getElem?_replicate, if_pos (by omega)])
    have kn : (0 : Int) < (nc : Int) := by omega
    have h3 : BS (w2.setCell ⟨CB, 0, none⟩ (.int .i64 0)) B B CB MB VB vn T.length s [] (fun _ _ => false) C0 (List.replicate nc (-1)) := by rw [HC0.out]; exact HBS.out.setC 0 0 (by simp; omega)
    have H3 := Lib.hid h3
    have hbw : Below B w (w2.setCell ⟨CB, 0, none⟩ (.int .i64 0)) := (HWb.out.trans HB2.out).setCell (p := ⟨CB, 0, none⟩) HBS.out.bc _
    have HBW := Lib.hid hbw
    have q1 : (w2.setCell ⟨CB, 0, none⟩ (.int .i64 0)).cell? ⟨R, 1, none⟩ = some (.pointer (some ⟨PB, 0, none⟩)) := (hbw.cell (p := ⟨R, 1, none⟩) hRs).trans r1
    have q0 : (w2.setCell ⟨CB, 0, none⟩ (.int .i64 0)).cell? ⟨PB, 1, none⟩ = some (.int .i64 start) := (hbw.cell (p := ⟨PB, 1, none⟩) hPs).trans p1
    clear hz h3 hbw
    go_upto_region 12 with fail
    clear HBS HB2 b1 b2 b3
    generalize w2.setCell ⟨CB, 0, none⟩ (.int .i64 0) = w3 at *
    cases r with
    | none =>
      go_wp2_with (first
        | (go_at_call 84; refine (MID.out _ H3.out HBW.out).mono ?_; rintro e w4 ⟨rfl, ⟨J, V, hbs4⟩, hb4⟩; have H4 := Lib.hid (And.intro hbs4 hb4); clear hbs4 hb4)
        | (go_at_call 85; refine (tFree w4 B s H4.out.1.c5 H4.out.1.f5).mono ?_; rintro e w5 ⟨⟨v5, rfl⟩, rfl⟩))
      change bodyPost Tryz.prog Tryz.f70 (fun e w' => ∃ v, e = .returned v ∧ Got w' base nc dst v (Option.map (0, ·) none) ∧ Below base w w' ∧ w.grownBy w' dst.ownBlock) .ret _ _
      go_ret
      exact ⟨_, rfl, rfl, (((HBW.out.trans H4.out.2)).setCell (p := ⟨B, 5, none⟩) (Nat.le_refl _) _).mono h0, grown_below (by rw [hB]; exact ((HBW.out.trans H4.out.2)).setCell (p := ⟨B, 5, none⟩) (Nat.le_refl _) _) _⟩
    | some t =>
      go_wp2_with (first
        | (go_at_call 84; refine (MID.out _ H3.out HBW.out).mono ?_; rintro e w4 ⟨rfl, ⟨J, V, hbs4⟩, hb4⟩; have H4 := Lib.hid (And.intro hbs4 hb4); have c2 := hbs4.c2; obtain ⟨v5, w5, hr5, e5, e5', hb5, hgr5, hk5⟩ := tail_eq HBW.out hb4 hbs4 HD.out h0 hB (by have := HN.out; omega) (by rw [applyT_length, HC0.out]; simp); have H5 := Lib.hid (And.intro hr5 (And.intro e5 (And.intro e5' (And.intro hb5 (And.intro hgr5 hk5))))); clear hbs4 hb4 hr5 e5 e5' hb5 hgr5 hk5)
        | ((with_reducible refine wpList_append_eq (o := ⟨some 146, _, _, _, _, _⟩) ?a1 (.tmp 141) (.tmp 145) 119 ?a2 ?a3 _ _ _ _ ?a4 ?a5 H5.out.1 ?_); (case a1 => rfl); (case a2 => rfl); (case a3 => rfl); (case a4 => rfl); (case a5 => rfl))
        | (go_at_call 85; refine (tFree w5 B s H5.out.2.2.2.2.2.c H5.out.2.2.2.2.2.f).mono ?_; rintro e w6 ⟨⟨v6, rfl⟩, rfl⟩)
        | apply wp_label)
      change bodyPost Tryz.prog Tryz.f70 (fun e w' => ∃ v, e = .returned v ∧ Got w' base nc dst v (Option.map (0, ·) (some t)) ∧ Below base w w' ∧ w.grownBy w' dst.ownBlock) .ret _ _
      go_ret
      refine ⟨v5, rfl, got_set H5.out.2.2.2.2.2 H5.out.2.1 (by have hh := H5.out.2.2.1; rw [HC0.out] at hh; exact hh) , H5.out.2.2.2.1.setCell (p := ⟨B, 5, none⟩) (by omega) _, grown_new H5.out.2.2.2.2.1 B 5 _ (by omega)⟩
end Go.Proofs.YthejepmnnpmdmaaGreatDoor.Sv
end
section
set_option linter.unusedVariables false
set_option linter.unusedSimpArgs false
/- the search from one place on -/
namespace Go.Proofs.YthejepmnnpmdmaaGreatDoor.Sv
open Go Go.RowKit Rx
set_option maxRecDepth 100000
theorem lit150 (f : Nat → Value) : (List.range 150).map f = [f 0, f 1, f 2, f 3, f 4, f 5, f 6, f 7, f 8, f 9, f 10, f 11, f 12, f 13, f 14, f 15, f 16, f 17, f 18, f 19, f 20, f 21, f 22, f 23, f 24, f 25, f 26, f 27, f 28, f 29, f 30, f 31, f 32, f 33, f 34, f 35, f 36, f 37, f 38, f 39, f 40, f 41, f 42, f 43, f 44, f 45, f 46, f 47, f 48, f 49, f 50, f 51, f 52, f 53, f 54, f 55, f 56, f 57, f 58, f 59, f 60, f 61, f 62, f 63, f 64, f 65, f 66, f 67, f 68, f 69, f 70, f 71, f 72, f 73, f 74, f 75, f 76, f 77, f 78, f 79, f 80, f 81, f 82, f 83, f 84, f 85, f 86, f 87, f 88, f 89, f 90, f 91, f 92, f 93, f 94, f 95, f 96, f 97, f 98, f 99, f 100, f 101, f 102, f 103, f 104, f 105, f 106, f 107, f 108, f 109, f 110, f 111, f 112, f 113, f 114, f 115, f 116, f 117, f 118, f 119, f 120, f 121, f 122, f 123, f 124, f 125, f 126, f 127, f 128, f 129, f 130, f 131, f 132, f 133, f 134, f 135, f 136, f 137, f 138, f 139, f 140, f 141, f 142, f 143, f 144, f 145, f 146, f 147, f 148, f 149] := rfl
theorem fr150 (xs : List Value) (h : xs.length = 150) : xs = [sel xs 0, sel xs 1, sel xs 2, sel xs 3, sel xs 4, sel xs 5, sel xs 6, sel xs 7, sel xs 8, sel xs 9, sel xs 10, sel xs 11, sel xs 12, sel xs 13, sel xs 14, sel xs 15, sel xs 16, sel xs 17, sel xs 18, sel xs 19, sel xs 20, sel xs 21, sel xs 22, sel xs 23, sel xs 24, sel xs 25, sel xs 26, sel xs 27, sel xs 28, sel xs 29, sel xs 30, sel xs 31, sel xs 32, sel xs 33, sel xs 34, sel xs 35, sel xs 36, sel xs 37, sel xs 38, sel xs 39, sel xs 40, sel xs 41, sel xs 42, sel xs 43, sel xs 44, sel xs 45, sel xs 46, sel xs 47, sel xs 48, sel xs 49, sel xs 50, sel xs 51, sel xs 52, sel xs 53, sel xs 54, sel xs 55, sel xs 56, sel xs 57, sel xs 58, sel xs 59, sel xs 60, sel xs 61, sel xs 62, sel xs 63, sel xs 64, sel xs 65, sel xs 66, sel xs 67, sel xs 68, sel xs 69, sel xs 70, sel xs 71, sel xs 72, sel xs 73, sel xs 74, sel xs 75, sel xs 76, sel xs 77, sel xs 78, sel xs 79, sel xs 80, sel xs 81, sel xs 82, sel xs 83, sel xs 84, sel xs 85, sel xs 86, sel xs 87, sel xs 88, sel xs 89, sel xs 90, sel xs 91, sel xs 92, sel xs 93, sel xs 94, sel xs 95, sel xs 96, sel xs 97, sel xs 98, sel xs 99, sel xs 100, sel xs 101, sel xs 102, sel xs 103, sel xs 104, sel xs 105, sel xs 106, sel xs 107, sel xs 108, sel xs 109, sel xs 110, sel xs 111, sel xs 112, sel xs 113, sel xs 114, sel xs 115, sel xs 116, sel xs 117, sel xs 118, sel xs 119, sel xs 120, sel xs 121, sel xs 122, sel xs 123, sel xs 124, sel xs 125, sel xs 126, sel xs 127, sel xs 128, sel xs 129, sel xs 130, sel xs 131, sel xs 132, sel xs 133, sel xs 134, sel xs 135, sel xs 136, sel xs 137, sel xs 138, sel xs 139, sel xs 140, sel xs 141, sel xs 142, sel xs 143, sel xs 144, sel xs 145, sel xs 146, sel xs 147, sel xs 148, sel xs 149] := (map_sel xs 150 h).trans (lit150 (sel xs))

/-- what holds where the match is found -/
def AtM (w0 : World) (B L nc : Nat) (s : ByteArray) (dst : Value) (r : Option (Nat × List (Nat × Nat))) (l n : Nat) (a : Act) (w : World) : Prop :=
  l = 0 ∧ ∃ xs : List Value, a = { tmps := xs.toArray, defers := [] } ∧ xs.length = 150 ∧ sel xs 5 = dst ∧ sel xs 14 = .pointer (some ⟨B, 0, none⟩) ∧
    ∃ CB MB VB vn p t J V, r = some (p, t) ∧ BS w B B CB MB VB vn L s J V (applyT t ((List.replicate nc (-1)).set 0 (p : Int))) (applyT t ((List.replicate nc (-1)).set 0 (p : Int))) ∧ Below B w0 w
/-- what holds at a round of the search -/
structure Rnd (w0 wr : World) (B CB MB VB vn nc : Nat) (T : List I) (s : ByteArray) (f : Nat → Res) (r : Option (Nat × List (Nat × Nat))) (g p : Nat) (wd : Int) : Prop where
  bs : ∃ V c0, AllDead (envOf T s) V ∧ BS wr B B CB MB VB vn T.length s [] V ((List.replicate nc (-1)).set 0 c0) (List.replicate nc (-1))
  below : Below B w0 wr
  le : p ≤ s.size
  res : (wd ≠ 0 ∧ s.size + 2 ≤ p + g ∧ r = srch (envOf T s) s.size f g p) ∨ (wd = 0 ∧ r = none)
  wle : -1 ≤ wd ∧ wd ≤ 1000000
theorem wp_scope_one {P : Program} {a : Act} {w : World} {Q : Exit → Act → World → Prop} {c : Code} (J : Nat → Nat → Act → World → Prop)
    (first : c.wp P (Exit.jumpN J none Q) a w)
    (lab : ∀ l n a w, J l n a w → l = 0)
    (zero : ∃ rest, findLabel c 0 = some (.seq .skip rest) ∧ ∀ n a w, J 0 n a w → rest.wp P (Exit.jumpN J (some n) Q) a w) : (Code.scope c).wp P Q a w := by
  refine wp_scope_jumpsN J first fun l n a w h => ?_
  obtain rfl := lab l n a w h
  obtain ⟨r, h1, h2⟩ := zero
  exact ⟨_, h1, wp_seq (wp_skip (h2 n a w h))⟩
theorem rep_set (n : Nat) : (List.replicate n (-1 : Int)).set 0 (-1) = List.replicate n (-1) := by cases n <;> rfl
set_option maxHeartbeats 1000000 in
theorem tBackU {w : World} {R PB IB icap : Nat} {T : List I} {s : ByteArray} (hS : Sur w R PB IB icap T s) {start ncap minl nsub : Nat} (hR : RH w R PB 0 start ncap minl nsub) (x : I) (hx : T[start]? = some x) (hf : opc x ≠ 5)
    (base nc : Nat) (hnc : 2 ≤ nc ∧ nc ≤ 1000) (dst : Value) (hd : DstOk w base nc dst) (h0 : base ≤ w.heap.size) (f : Nat → Res) (hM : ∀ p, p ≤ s.size → ∃ n, FM (envOf T s) n start p (f p)) (pos : Nat) (hpos : pos ≤ s.size) (k : Nat) (hk : s.size + 2 ≤ pos + k)
    (r : Option (Nat × List (Nat × Nat))) (hr : r = srch (envOf T s) s.size f k pos) :
    Calls Tryz.prog 70 #[.pointer (some ⟨R, 0, none⟩), .slice none 0 0, .string s, .int .i64 pos, .int .i64 nc, dst] w fun e w' => ∃ v, e = .returned v ∧ Got w' base nc dst v r ∧ Below base w w' ∧ w.grownBy w' dst.ownBlock := by
  have r1 := hS.pg.r1
  have p0 := hS.pg.p0
  have r13 := hR.cond
  have p1 := hR.start
  have r6 := hR.pre
  have hst : start < 1000 := by have := (List.getElem?_eq_some_iff.1 hx).1; have := hS.pg.len; omega
  have hwr := wrap_u32_small start hst
  have HS := Lib.hid hS
  have HR := Lib.hid hR
  have HX := Lib.hid (And.intro hx hf)
  have HN := Lib.hid hnc
  have HD := Lib.hid hd
  have HM := Lib.hid hM
  have HK := Lib.hid (And.intro hpos (And.intro hk hr))
  have hlen := hS.len
  have hRs : R < w.heap.size := Lib.lt_of_cell r1
  have hPs : PB < w.heap.size := Lib.lt_of_cell p0
  have e1 : bits .and .u8 0 4 = 0 := by decide
  clear hS hR hx hf hnc hd hM hk hr
  go_enter Tryz.func70, Tryz.ntmps70
  go_wp2
  generalize hB : w.heap.size = B at *
  refine wp_scope_one (AtM w B T.length nc s dst r) ?_ (fun l n a w h => h.1) ?_
  · have hWc5 : (w.alloc (.cells #[.int .i64 0, .slice none 0 0, .slice none 0 0, .slice none 0 0, .slice none 0 0, .string ⟨#[]⟩] 152)).cell? ⟨w.heap.size, 5, none⟩ = some (.string ⟨#[]⟩) := cell_of_row _ _ 5 _ _ _ (heap_alloc_new w _)
    have hWf5 : (w.alloc (.cells #[.int .i64 0, .slice none 0 0, .slice none 0 0, .slice none 0 0, .slice none 0 0, .string ⟨#[]⟩] 152)).frozen? ⟨w.heap.size, 5, none⟩ = false := frozen_of_row _ _ _ _ _ (heap_alloc_new w _)
    rw [hB] at hWc5 hWf5
    have HI := Lib.hid (tInit _ _ s _ hWc5 hWf5)
    clear hWc5 hWf5
    go_upto_region 8 with (first
      | (go_at_call 81; refine (tNew w).mono ?_; rw [hB]; rintro e w1 ⟨rfl, rfl⟩)
      | (go_at_call 82; refine HI.out.mono ?_; rintro e w1 ⟨rfl, rfl⟩))
    generalize hW : w.alloc _ = W
    have hWB : W.heap[B]? = some (.cells (st0 s) 152 (0, 0)) := by rw [← hW, ← hB]; exact heap_alloc_new w _
    have hWb : Below B w W := by rw [← hW]; exact (Below.refl _ w).alloc (by omega) _
    clear hW HI
    have hL := HS.out.pg.len
    have hL0 : 0 < T.length := by have := (List.getElem?_eq_some_iff.1 HX.out.1).1; omega
    have HWb := Lib.hid hWb
    have q1 : W.cell? ⟨R, 1, none⟩ = some (.pointer (some ⟨PB, 0, none⟩)) := (hWb.cell (p := ⟨R, 1, none⟩) hRs).trans r1
    have q0 : W.cell? ⟨PB, 0, none⟩ = some (.slice (some ⟨IB, 0, none⟩) T.length icap) := (hWb.cell (p := ⟨PB, 0, none⟩) hPs).trans p0
    have HV := Lib.hid (tReset W B B PB IB icap T.length nc s hWB (Nat.le_refl _) q0 hL0 hL HS.out.len HS.out.fit (by have := HN.out; omega) (by omega))
    clear hWb hWB hL hL0
    go_upto_region 15 with (go_at_call 83; refine HV.out.mono ?_; rintro e w2 ⟨⟨v, rfl⟩, hb2, CB, MB, VB, vn, hbs⟩)
    have HB2 := Lib.hid (HWb.out.trans hb2)
    have HBS := Lib.hid hbs
    clear hb2 hbs HV q1 q0 HWb
    go_wp2
    go_loopg [3, 17] k (fun g pv wv wr => ∃ (p : Nat) (wd : Int), pv = .int .i64 p ∧ wv = .int .i64 wd ∧ Hid (Rnd w wr B CB MB VB vn nc T s f r g p wd))
    case atStart => exact ⟨pos, -1, rfl, rfl, Lib.hid ⟨⟨fun _ _ => false, -1, fun _ _ h => (by cases h), by have := HBS.out; rwa [rep_set]⟩, HB2.out, HK.out.1, .inl ⟨by decide, HK.out.2.1, HK.out.2.2⟩, by decide⟩⟩
    case round =>
      obtain ⟨p, wd, rfl, rfl, HR⟩ := hrel
      obtain ⟨V, c0, hdead, hbs⟩ := HR.out.bs
      have hbw := HR.out.below
      have HBW := Lib.hid hbw
      rcases HR.out.res with ⟨hw0, hg, hrr⟩ | ⟨rfl, hrr⟩
      · obtain ⟨g, rfl⟩ : ∃ g', gk = g' + 1 := ⟨gk - 1, by have := HR.out.le; omega⟩
        have hple := HR.out.le
        have k1 : (p : Int) ≤ (s.size : Int) := by omega
        have b1 : wr.cell? ⟨B, 1, none⟩ = some (.slice (some ⟨CB, 0, none⟩) nc nc) := by rw [hbs.c1, List.length_set, List.length_replicate]; unfold sl; rw [if_neg (by have := HN.out; omega)]
        obtain ⟨_, b2, b3⟩ := hbs.cg 0 c0 (by rw [List.getElem?_set]; simp; have := HN.out; omega)
        have kn : (0 : Int) < (nc : Int) := by have := HN.out; omega
        have q1 : wr.cell? ⟨R, 1, none⟩ = some (.pointer (some ⟨PB, 0, none⟩)) := (hbw.cell (p := ⟨R, 1, none⟩) hRs).trans r1
        have q6 : wr.cell? ⟨R, 6, none⟩ = some (.string ⟨#[]⟩) := (hbw.cell (p := ⟨R, 6, none⟩) hRs).trans r6
        have hb3 : Below B w (wr.setCell ⟨CB, 0, none⟩ (.int .i64 p)) := hbw.setCell (p := ⟨CB, 0, none⟩) hbs.bc _
        have q1' : (wr.setCell ⟨CB, 0, none⟩ (.int .i64 p)).cell? ⟨R, 1, none⟩ = some (.pointer (some ⟨PB, 0, none⟩)) := (hb3.cell (p := ⟨R, 1, none⟩) hRs).trans r1
        have q0' : (wr.setCell ⟨CB, 0, none⟩ (.int .i64 p)).cell? ⟨PB, 1, none⟩ = some (.int .i64 start) := (hb3.cell (p := ⟨PB, 1, none⟩) hPs).trans p1
        have h3 : BS (wr.setCell ⟨CB, 0, none⟩ (.int .i64 p)) B B CB MB VB vn T.length s [] V ((List.replicate nc (-1)).set 0 (p : Int)) (List.replicate nc (-1)) := by
          have := hbs.setC 0 (p : Int) (by simp; have := HN.out; omega)
          rwa [List.set_set] at this
        have hc := Sur.ctx HS.out (w2 := wr.setCell ⟨CB, 0, none⟩ (.int .i64 p)) (by rw [hB]; exact hb3)
        rw [hB] at hc
        have hnc2 : nc = 0 ∨ (2 ≤ nc ∧ nc ≤ 1000) := .inr HN.out
        obtain ⟨nn, hfm⟩ := HM.out p hple
        have htry := tryAt hfm V ((List.replicate nc (-1)).set 0 (p : Int)) hdead
        have HB3 := Lib.hid hb3
        have HG := Lib.hid (And.intro hg (And.intro hw0 (And.intro hple hrr)))
        clear hb3 hg hrr hdead hfm
        cases hfp : f p with
        | none =>
          rw [hfp] at htry
          obtain ⟨kk, V', hV', hst⟩ := htry
          have HT := Lib.hid (tTry hc h3 start p x HX.out.1 HX.out.2 hple (by simp) hnc2 rfl kk false _ _ _ hst)
          have HV' := Lib.hid hV'
          have HFP := Lib.hid hfp
          have hwb : p + (stepB s p).2 ≤ s.size := by
            by_cases c : p < s.size
            · exact (HS.out.ok.inn p c).2
            · have : stepB s p = (-1, 0) := HS.out.ok.out p (by omega)
              rw [this]; omega
          have kw : IntKind.i64.wrap ((p : Int) + ((stepB s p).2 : Int)) = ((p + (stepB s p).2 : Nat) : Int) := by rw [IntKind.wrap_i64]; omega
          have HWB := Lib.hid hwb
          clear hc h3 hst hV' hfp hbs hnc2 hwb
          go_wp2_with (first
            | (go_at_call 84; refine HT.out.mono ?_; rintro e w4 ⟨rfl, ⟨J, hJ, hbs4⟩, hb4⟩; have hJ := hJ rfl; subst hJ; have H4 := Lib.hid (And.intro hbs4 hb4); have c5 := hbs4.c5; have htab := (Sur.ctx HS.out (w2 := w4) (by rw [hB]; exact HB3.out.trans hb4)).tab'; have HST := Lib.hid (tStep B s p (by omega) hlen w4 htab c5); clear hbs4 hb4 c5 htab)
            | (go_at_call 72; refine HST.out.mono ?_; rintro e w5 ⟨rfl, hb5⟩; have H5 := Lib.hid hb5; clear hb5))
          go_roundg g
          case measure => omega
          case rel =>
            obtain ⟨hg, hw0, hple, hrr⟩ := HG.out
            have hstep : (envOf T s).step p = stepB s p := rfl
            refine ⟨p + (stepB s p).2, ((stepB s p).2 : Int), rfl, rfl, Lib.hid ⟨⟨V', (p : Int), HV'.out, by simpa using H4.out.1.keep (H5.out)⟩, (HB3.out.trans H4.out.2).trans (H5.out.mono H4.out.1.bw), HWB.out, ?_, ⟨by omega, by have := HWB.out; omega⟩⟩⟩
            by_cases cz : (stepB s p).2 = 0
            · refine .inr ⟨by omega, ?_⟩
              rw [hrr, srch, if_neg (by omega), HFP.out, hstep]
              simp [cz]
            · refine .inl ⟨by omega, by omega, ?_⟩
              rw [hrr, srch, if_neg (by omega), HFP.out, hstep]
              simp [cz]
        | some t =>
          rw [hfp] at htry
          obtain ⟨kk, V', J', hst⟩ := htry
          have HT := Lib.hid (tTry hc h3 start p x HX.out.1 HX.out.2 hple (by simp) hnc2 rfl kk true _ _ _ hst)
          have HFP := Lib.hid hfp
          clear hc h3 hst hfp hbs hnc2
          go_wp2_with (go_at_call 84; refine HT.out.mono ?_; rintro e w4 ⟨rfl, ⟨J, _, hbs4⟩, hb4⟩; have H4 := Lib.hid (And.intro hbs4 hb4); clear hbs4 hb4)
          refine wp_goto ?_
          refine ⟨0, fun k h => (by cases h), rfl, _, rfl, rfl, rfl, rfl, CB, MB, VB, vn, p, t, _, _, ?_, by simpa using H4.out.1, HB3.out.trans H4.out.2⟩
          obtain ⟨hg, hw0, hple, hrr⟩ := HG.out
          rw [hrr, srch, if_neg (by omega), HFP.out]
      · have c5 := hbs.c5
        have f5 := hbs.f5
        have k1 : (p : Int) ≤ (s.size : Int) := by have := HR.out.le; omega
        have HRR := Lib.hid hrr
        clear hrr hbs hbw HR
        go_wp2_with (go_at_call 85; refine (tFree wr B s c5 f5).mono ?_; rintro e w5 ⟨⟨v5, rfl⟩, rfl⟩)
        change bodyPost Tryz.prog Tryz.f70 (fun e w' => ∃ v, e = .returned v ∧ Got w' base nc dst v r ∧ Below base w w' ∧ w.grownBy w' dst.ownBlock) .ret _ _
        go_ret
        exact ⟨_, rfl, by rw [HRR.out]; rfl, (HBW.out.setCell (p := ⟨B, 5, none⟩) (Nat.le_refl _) _).mono h0, grown_below (by rw [hB]; exact HBW.out.setCell (p := ⟨B, 5, none⟩) (Nat.le_refl _) _) _⟩
  · refine ⟨_, rfl, ?_⟩
    rintro n _ w4 ⟨_, xs, rfl, hl, e5, e14, CB, MB, VB, vn, p, t, J, V, hrr, hbs, hb4⟩
    rw [fr150 xs hl, e5, e14]
    obtain ⟨v5, w5, hr5, g5, g5', hb5, hgr5, hk5⟩ := tail_eq (Below.refl B w) hb4 hbs HD.out h0 hB (by have := HN.out; omega) (by rw [applyT_length]; simp)
    have c2 := hbs.c2
    have H5 := Lib.hid (And.intro hr5 (And.intro g5 (And.intro g5' (And.intro hb5 (And.intro hgr5 hk5)))))
    have HRR := Lib.hid hrr
    clear hr5 g5 g5' hb5 hgr5 hk5 hrr hl e5 e14
    go_wp2_with (first
      | ((with_reducible refine wpList_append_eq (o := ⟨some 146, _, _, _, _, _⟩) ?a1 (.tmp 141) (.tmp 145) 119 ?a2 ?a3 _ _ _ _ ?a4 ?a5 H5.out.1 ?_); (case a1 => rfl); (case a2 => rfl); (case a3 => rfl); (case a4 => rfl); (case a5 => rfl))
      | (go_at_call 85; refine (tFree w5 B s H5.out.2.2.2.2.2.c H5.out.2.2.2.2.2.f).mono ?_; rintro e w6 ⟨⟨v6, rfl⟩, rfl⟩))
    change bodyPost Tryz.prog Tryz.f70 (fun e w' => ∃ v, e = .returned v ∧ Got w' base nc dst v r ∧ Below base w w' ∧ w.grownBy w' dst.ownBlock) .ret _ _
    go_ret
    exact ⟨v5, rfl, by rw [HRR.out]; exact got_set H5.out.2.2.2.2.2 H5.out.2.1 H5.out.2.2.1, H5.out.2.2.2.1.setCell (p := ⟨B, 5, none⟩) (by omega) _, grown_new H5.out.2.2.2.2.1 B 5 _ (by omega)⟩
end Go.Proofs.YthejepmnnpmdmaaGreatDoor.Sv
end
