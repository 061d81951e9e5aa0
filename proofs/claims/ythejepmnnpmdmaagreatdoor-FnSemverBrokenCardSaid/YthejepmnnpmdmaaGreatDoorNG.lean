/- a part of the proof: FnSemverBroken: for every list of lists of terms, every style and every byte the law's function returns true and leaves its arguments as they were. No condition is added: the statement is the given one, the tied card. -/
import Derived.Test.YthejepmnnpmdmaaGreatDoorNF
import Derived.Lib.ItoaMem
import Derived.Lib.AppendIntMem
import Derived.Lib.SmallJoins
import Derived.Test.YthejepmnnpmdmaaGreatDoorNC
import Derived.Lib.OthersKept
import Derived.Lib.TrimU
import Derived.Deep.LoopGhost
import Derived.Deep.RegionHeld3
section
set_option linter.unusedVariables false
set_option linter.unusedSimpArgs false
/- a number's decimal numeral -/
namespace Go.Proofs.YthejepmnnpmdmaaGreatDoor.Sv
open Go Go.RowKit Rx Go.Sort Go.Lib
set_option maxRecDepth 100000
/-- a number is read -/
theorem tParse (u : Nat) (t : Bs) (ht : Lib.parseUintB 64 t = .ok u) (hl : t.length ≤ 1000) (w : World) :
    Calls Tryz.prog 67 #[.string (bytesOf t), .int .i64 10, .int .i64 64] w fun e w' => e = .returned (.tuple #[.int .u64 u, .nilIface]) ∧ RowKit.Below w.heap.size w w' := by
  refine (Tryz.strconv_ParseUint_10_at64_ok (bytesOf t) (by rw [bytesOf_size]; omega) u ht w).mono ?_
  rintro e w' ⟨rfl, h⟩
  refine ⟨rfl, ?_⟩
  rcases h with rfl | rfl
  · exact RowKit.Below.refl _ _
  · exact Go.Joins.below_bytesWorld _ w 5 _ (Nat.le_refl _)
theorem parseM_app (M : Nat) : ∀ (l : List UInt8) (acc u d : Nat), Lib.parseUintM M acc l = .ok u → d < 10 → u < 1844674407370955162 → u * 10 + d ≤ M → Lib.parseUintM M acc (l ++ [UInt8.ofNat (48 + d)]) = .ok (u * 10 + d)
  | [], acc, u, d, h, hd, hu, hM => by
    simp only [Lib.parseUintM] at h
    injection h with h
    subst h
    have e : (UInt8.ofNat (48 + d)).toNat = 48 + d := by simp; omega
    simp only [List.nil_append, Lib.parseUintM, e]
    rw [if_pos (by omega), if_neg (by omega), if_neg (by omega)]
    congr 1; omega
  | c :: l, acc, u, d, h, hd, hu, hM => by
    simp only [List.cons_append, Lib.parseUintM] at h ⊢
    split at h
    · rename_i hc
      rw [if_pos hc]
      split at h
      · cases h
      · rename_i h1
        rw [if_neg h1]
        split at h
        · cases h
        · rename_i h2
          rw [if_neg h2]
          exact parseM_app M l _ u d h hd hu hM
    · cases h
theorem decDigits_ne (u : Nat) : Lib.decDigits u ≠ [] := by
  rw [Lib.decDigits]
  split <;> simp
theorem parse_dec : ∀ (n u : Nat), u ≤ n → u < 18446744073709551616 → Lib.parseUintM 18446744073709551615 0 (Lib.decDigits u) = .ok u
  | 0, u, hn, hu => by
    have : u = 0 := by omega
    subst this
    rw [Lib.decDigits_one (by omega)]; rfl
  | n + 1, u, hn, hu => by
    by_cases h : u < 10
    · rw [Lib.decDigits_one h]
      have e : (UInt8.ofNat (48 + u)).toNat = 48 + u := by simp; omega
      simp only [Lib.parseUintM, e]
      rw [if_pos (by omega), if_neg (by omega), if_neg (by omega)]
      congr 1; omega
    · rw [Lib.decDigits, dif_neg h]
      have ih := parse_dec n (u / 10) (by omega) (by omega)
      have := parseM_app 18446744073709551615 _ 0 (u / 10) (u % 10) ih (by omega) (by omega) (by omega)
      rw [this]
      congr 1; omega
theorem parse_dec64 (u : Nat) (hu : u < 18446744073709551616) : Lib.parseUintB 64 (Lib.decDigits u) = .ok u := by
  unfold Lib.parseUintB
  rw [if_neg (decDigits_ne u)]
  exact parse_dec u u (Nat.le_refl _) hu
theorem decDigits_dB : ∀ (n u : Nat), u ≤ n → ∀ y ∈ Lib.decDigits u, dB y = true
  | 0, u, hn, y, hy => by
    have : u = 0 := by omega
    subst this
    rw [Lib.decDigits_one (by omega)] at hy
    have : y = 48 := by simpa using hy
    subst this; decide
  | n + 1, u, hn, y, hy => by
    have key : ∀ d, d < 10 → dB (UInt8.ofNat (48 + d)) = true := by decide
    by_cases h : u < 10
    · rw [Lib.decDigits_one h] at hy
      have : y = UInt8.ofNat (48 + u) := by simpa using hy
      subst this; exact key u h
    · rw [Lib.decDigits, dif_neg h] at hy
      rcases List.mem_append.1 hy with hy | hy
      · exact decDigits_dB n (u / 10) (by omega) y hy
      · have : y = UInt8.ofNat (48 + u % 10) := by simpa using hy
        subst this; exact key _ (by omega)
theorem nDigits_le (u : Nat) (hu : u < 18446744073709551616) : (Lib.decDigits u).length ≤ 20 := by
  rw [Lib.decDigits_length]
  by_cases h : u = 0
  · subst h; rw [Lib.nDigits]; decide
  · have := Lib.numDigits_eq u (by omega) hu; split at this <;> omega
end Go.Proofs.YthejepmnnpmdmaaGreatDoor.Sv
end
section
set_option linter.unusedVariables false
set_option linter.unusedSimpArgs false
/- the identifiers between the dots of a text -/
namespace Go.Proofs.YthejepmnnpmdmaaGreatDoor.Sv
open Go Go.RowKit Rx
set_option maxRecDepth 100000
def idents : Bs → List Bs
  | [] => [[]]
  | x :: l => if x = 46 then [] :: idents l else match idents l with
    | [] => [[x]]
    | y :: r => (x :: y) :: r
theorem idents_ne : ∀ l : Bs, idents l ≠ []
  | [] => by simp [idents]
  | x :: l => by
    unfold idents
    split
    · simp
    · split <;> simp
theorem idents_none : ∀ {a : Bs}, (∀ y ∈ a, y ≠ 46) → idents a = [a]
  | [], _ => rfl
  | x :: l, h => by
    have h1 : x ≠ 46 := h x (by simp)
    have h2 := idents_none (a := l) fun y hy => h y (List.mem_cons_of_mem _ hy)
    simp [idents, h1, h2]
theorem idents_at : ∀ {a b : Bs}, (∀ y ∈ a, y ≠ 46) → idents (a ++ 46 :: b) = a :: idents b
  | [], b, _ => by simp [idents]
  | x :: l, b, h => by
    have h1 : x ≠ 46 := h x (by simp)
    have h2 := idents_at (a := l) (b := b) fun y hy => h y (List.mem_cons_of_mem _ hy)
    simp [idents, h1, h2]
theorem dot_split : ∀ s : Bs, (∀ y ∈ s, y ≠ 46) ∨ ∃ a b, s = a ++ 46 :: b ∧ ∀ y ∈ a, y ≠ 46
  | [] => .inl (by simp)
  | x :: l => by
    by_cases hx : x = 46
    · subst hx; exact .inr ⟨[], l, rfl, by simp⟩
    · rcases dot_split l with h | ⟨a, b, rfl, h⟩
      · exact .inl fun y hy => by
          rcases List.mem_cons.1 hy with rfl | hy
          · exact hx
          · exact h y hy
      · exact .inr ⟨x :: a, b, rfl, fun y hy => by
          rcases List.mem_cons.1 hy with rfl | hy
          · exact hx
          · exact h y hy⟩
theorem idents_join : ∀ (n : Nat) (s : Bs), s.length ≤ n → ∃ x r, idents s = x :: r ∧ s = x ++ dots r
  | 0, s, h => by
    obtain rfl : s = [] := List.length_eq_zero_iff.1 (by omega)
    exact ⟨[], [], rfl, rfl⟩
  | n + 1, s, h => by
    rcases dot_split s with h1 | ⟨a, b, rfl, h1⟩
    · exact ⟨s, [], idents_none h1, by simp [dots]⟩
    · obtain ⟨x, r, e1, e2⟩ := idents_join n b (by simp at h; omega)
      exact ⟨a, x :: r, by rw [idents_at h1, e1], by rw [e2]; simp [dots]⟩
theorem ext1 {s : Bs} {i : Nat} (h : i < s.length) : ((bytesOf s).extract i (i + 1)).toList = [s[i]] := by
  rw [extract_eq (A := s.take i) (B := [s[i]]) (C := s.drop (i + 1)) (by
    show s.toArray.toList = _
    rw [List.toList_toArray, List.singleton_append, ← List.drop_eq_getElem_cons h, List.take_append_drop]) (by simp; omega) (by simp)]
  exact ByteArray.toList_mk _
theorem sep1 : (⟨#[46]⟩ : ByteArray).size = 1 ∧ (⟨#[46]⟩ : ByteArray).toList = [46] := ⟨rfl, ByteArray.toList_mk [46]⟩
theorem first_dot {a b : Bs} (h : ∀ y ∈ a, y ≠ 46) : First (bytesOf (a ++ 46 :: b)) ⟨#[46]⟩ (some a.length) := by
  unfold First
  rw [sep1.1, sep1.2]
  refine ⟨by rw [bytesOf_size]; simp, by rw [ext1 (by simp)]; simp, fun i hi => ?_⟩
  rw [ext1 (by simp; omega)]
  have := h a[i] (List.getElem_mem hi)
  simp [List.getElem_append_left hi, this]
theorem first_nodot {a : Bs} (h : ∀ y ∈ a, y ≠ 46) : First (bytesOf a) ⟨#[46]⟩ none := by
  unfold First
  rw [sep1.1, sep1.2]
  intro i hi
  rw [bytesOf_size] at hi
  rw [ext1 (by omega)]
  have := h a[i] (List.getElem_mem (by omega))
  simp [this]
theorem parted_dot : ∀ (n : Nat) (s : Bs), s.length ≤ n → Parted ⟨#[46]⟩ (bytesOf s) ((idents s).map bytesOf)
  | 0, s, h => by
    rw [List.length_eq_zero_iff.1 (show s.length = 0 by omega)]
    exact .last _ (first_nodot (by simp))
  | n + 1, s, h => by
    rcases dot_split s with h1 | ⟨a, b, rfl, h1⟩
    · rw [idents_none h1]
      exact .last _ (first_nodot h1)
    · rw [idents_at h1]
      have e0 : (bytesOf (a ++ 46 :: b)).extract 0 a.length = bytesOf a := extract_eq (A := []) (B := a) (C := 46 :: b) (by show (a ++ 46 :: b).toArray.toList = _; simp) (by simp) (by simp)
      have e1 : (bytesOf (a ++ 46 :: b)).extract (a.length + (⟨#[46]⟩ : ByteArray).size) (bytesOf (a ++ 46 :: b)).size = bytesOf b := extract_eq (A := a ++ [46]) (B := b) (C := []) (by show (a ++ 46 :: b).toArray.toList = _; simp) (by rw [sep1.1]; simp) (by rw [sep1.1, bytesOf_size]; simp; omega)
      have h2 := parted_dot n b (by simp at h; omega)
      rw [← e1] at h2
      have := Parted.more _ a.length _ (first_dot (b := b) h1) h2
      rw [e0] at this
      exact this
/-- an identifier of a prerelease: its bytes, and no zero ahead of a number -/
def idOk (i : Bs) : Prop := okPart iB i ∧ ¬ ((∀ y ∈ i, dB y = true) ∧ 1 < i.length ∧ i.head? = some 48)
def PreOk (s : Bs) : Prop := ∀ i ∈ idents s, idOk i
theorem PreOk.grp {s : Bs} (h : PreOk s) : ∃ x r, idents s = x :: r ∧ s = x ++ dots r ∧ okGrp iB (some (x, r)) := by
  obtain ⟨x, r, e1, e2⟩ := idents_join s.length s (Nat.le_refl _)
  exact ⟨x, r, e1, e2, (h x (by rw [e1]; simp)).1, fun y hy => (h y (by rw [e1]; exact List.mem_cons_of_mem _ hy)).1⟩
/-! a zero ahead of a number -/
theorem parse_zero (a : Nat) (ha : a < 18446744073709551616) : Lib.parseUintB 64 (48 :: Lib.decDigits a) = .ok a := by
  have h := parse_dec64 a ha
  unfold Lib.parseUintB at h ⊢
  rw [if_neg (decDigits_ne a)] at h
  rw [if_neg (by simp)]
  unfold Lib.parseUintM
  simpa using h
end Go.Proofs.YthejepmnnpmdmaaGreatDoor.Sv
end
section
set_option linter.unusedVariables false
set_option linter.unusedSimpArgs false
/- the law's small functions -/
namespace Go.Proofs.YthejepmnnpmdmaaGreatDoor.Sv
open Go Go.RowKit Rx
set_option maxRecDepth 100000
/-- a version as the thin package has it -/
abbrev iv (a b c : Nat) (p m : ByteArray) : Value := .agg #[.int .u64 a, .int .u64 b, .int .u64 c, .string p, .string m]
abbrev e0 : ByteArray := ⟨#[]⟩
theorem bcell {W w1 : World} (hb : Below W.heap.size W w1) : (∀ b o, b < W.heap.size → w1.cell? ⟨b, o, none⟩ = W.cell? ⟨b, o, none⟩) ∧ (∀ b o, b < W.heap.size → w1.frozen? ⟨b, o, none⟩ = W.frozen? ⟨b, o, none⟩) :=
  ⟨fun b o h => hb.cell (p := ⟨b, o, none⟩) h, fun b o h => hb.frozen (p := ⟨b, o, none⟩) h⟩
def SomeB (e : Ending) : Prop := ∃ r : Bool, e = .returned (.bool r)
def plainB (a b c : Nat) : Bool := decide (a < 18446744073709551615) && (decide (b < 18446744073709551615) && decide (c < 18446744073709551615))
end Go.Proofs.YthejepmnnpmdmaaGreatDoor.Sv
end
section
set_option linter.unusedVariables false
set_option linter.unusedSimpArgs false
/- does a text hold none but the bytes of another -/
namespace Go.Proofs.YthejepmnnpmdmaaGreatDoor.Sv
open Go Go.RowKit Rx
set_option maxRecDepth 100000
theorem iter_next {wr : World} {k : Nat} {s : Bs} {pos : Nat} (hk : wr.heap[k]? = some (.stringIter (bytesOf s) pos)) (h : pos < s.length) (ha : (s[pos]'h).toNat < 128) (ty : TypeId) :
    (Instr.next (.pointer (some ⟨k, 0, none⟩)) true ty).run Tryz.prog wr = .ok (.tuple #[.bool true, .int .i64 pos, .int .i32 (((s[pos]'h).toNat : Nat) : Int)]) (wr.iterAt k (bytesOf s) (pos + 1)) := by
  have hs : pos < (bytesOf s).size := by rw [bytesOf_size]; exact h
  have e : (bytesOf s)[pos]'hs = s[pos]'h := by simp [bytesOf]; rfl
  rw [Lib.run_next_any_at wr k _ pos ty hk hs, decode_ascii _ pos hs (by rw [e]; exact ha), e]
theorem iter_end {wr : World} {k : Nat} {s : Bs} {pos : Nat} (hk : wr.heap[k]? = some (.stringIter (bytesOf s) pos)) (h : ¬ pos < s.length) (ty : TypeId) :
    (Instr.next (.pointer (some ⟨k, 0, none⟩)) true ty).run Tryz.prog wr = .ok (.tuple #[.bool false]) wr :=
  Lib.run_next_end_at wr k _ pos ty hk (by rw [bytesOf_size]; exact h)
theorem jblk' {W W' : World} {j : Nat} {o : Obj} (hb : Below W.heap.size W W') (h : W.heap[j]? = some o) : W'.heap[j]? = some o := (hb.block j (Array.getElem?_eq_some_iff.1 h).1).trans h
set_option maxHeartbeats 2000000 in
theorem k122 (c : Bs) (hc : ∀ y ∈ c, y.toNat < 128) (n : Nat) (hn : n < 128) (w : World) : Calls Tryz.prog 88 #[.string (bytesOf c), .int .i32 (n : Int)] w fun e w' => (∃ i : Int, e = .returned (.int .i64 i) ∧ (0 ≤ i ↔ ∃ y ∈ c, y.toNat = n)) ∧ Below w.heap.size w w' := by
  have HC := Lib.hid hc
  have c1 : ((n : Int) != 65533) = true := by simp; omega
  have c2 : ¬ (n : Int) < 0 := by omega
  have c3 : ¬ (1114111 : Int) < (n : Int) := by omega
  have c4 : ¬ (55296 : Int) ≤ (n : Int) := by omega
  clear hc
  go_enter Tryz.func88, Tryz.ntmps88
  go_wp2
  go_loopg [] c.length (fun gf wx => ∃ pos : Nat, pos + gf = c.length ∧ wx.heap[w.heap.size]? = some (.stringIter (bytesOf c) pos) ∧ Below w.heap.size w wx ∧ ∀ i (h : i < c.length), i < pos → (c[i]'h).toNat ≠ n)
  case atStart => exact ⟨0, by omega, World.iter_heap w _ 0, (Below.refl _ w).alloc (Nat.le_refl _) _, fun i h h' => by omega⟩
  case round =>
    obtain ⟨pos, hpg, hit, hbw, hleft⟩ := hrel
    have HL := Lib.hid hleft
    clear hleft
    by_cases hps : pos < c.length
    · obtain ⟨g', rfl⟩ : ∃ g', gk = g' + 1 := ⟨gk - 1, by omega⟩
      have hnx := iter_next hit hps (HC.out _ (List.getElem_mem hps))
      have hit2 := Lib.iterAt_heap wr w.heap.size _ pos (pos + 1) hit
      have hbw2 := Lib.below_iterAt hbw (k := w.heap.size) (Nat.le_refl _) (bytesOf c) (pos + 1)
      obtain ⟨W, hWd⟩ : ∃ W, wr.iterAt w.heap.size (bytesOf c) (pos + 1) = W := ⟨_, rfl⟩
      rw [hWd] at hnx hit2 hbw2
      have HY := Lib.hid (List.getElem_mem hps)
      obtain ⟨y, hy⟩ : ∃ y, c[pos]'hps = y := ⟨_, rfl⟩
      have HYE := Lib.hid hy
      rw [hy] at hnx HY
      have HB := Lib.hid (And.intro hit2 hbw2)
      clear hy hWd hbw hit hit2 hbw2
      by_cases he : y.toNat = n
      · have c5 : ((y.toNat : Int) == (n : Int)) = true := by simp; omega
        have HE := Lib.hid he
        clear he
        go_wp2
        go_ret
        exact ⟨⟨_, rfl, ⟨fun _ => ⟨y, HY.out, HE.out⟩, fun _ => by omega⟩⟩, HB.out.2⟩
      · have c5 : ((y.toNat : Int) == (n : Int)) = false := by simp; omega
        have HE := Lib.hid he
        clear he
        go_wp2
        go_roundg g'
        case measure => omega
        case rel =>
          refine ⟨pos + 1, by omega, HB.out.1, HB.out.2, fun i h h' => ?_⟩
          by_cases hi : i = pos
          · subst hi; rw [HYE.out]; exact HE.out
          · exact HL.out i h (by omega)
    · have hnx := iter_end hit hps
      have HB := Lib.hid hbw
      clear hbw
      go_wp2
      go_ret
      refine ⟨⟨_, rfl, ⟨fun h => by omega, fun ⟨y, h1, h2⟩ => ?_⟩⟩, HB.out⟩
      obtain ⟨i, hi, rfl⟩ := List.getElem_of_mem h1
      exact absurd h2 (HL.out i hi (by omega))
theorem k110 (c : Bs) (hc : ∀ y ∈ c, y.toNat < 128) (n : Nat) (hn : n < 128) (w : World) : Calls Tryz.prog 78 #[.string (bytesOf c), .int .i32 (n : Int)] w fun e w' => e = .returned (.bool (c.any fun y => y.toNat == n)) ∧ Below w.heap.size w w' := by
  have H := Lib.hid (k122 c hc n hn w)
  clear hc hn
  go_enter Tryz.func78, Tryz.ntmps78
  go_wp2_with (go_at_call 88; refine H.out.mono ?_; rintro e w1 ⟨⟨i, rfl, hi⟩, hb⟩; have HB := Lib.hid (And.intro hi hb); clear hi hb)
  go_ret
  refine ⟨?_, HB.out.2⟩
  have h := HB.out.1
  have e : (c.any fun y => y.toNat == n) = decide (0 ≤ i) := by
    rw [Bool.eq_iff_iff]
    simp [h]
  rw [e]
  rfl
theorem k109 (c : Bs) (hc : ∀ y ∈ c, y.toNat < 128) (n : Nat) (hn : n < 128) (B : Nat) (w : World) (h0 : w.cell? ⟨B, 0, none⟩ = some (.string (bytesOf c))) : Calls Tryz.prog 77 #[.int .i32 (n : Int), .pointer (some ⟨B, 0, none⟩)] w fun e w' => e = .returned (.bool (!(c.any fun y => y.toNat == n))) ∧ Below w.heap.size w w' := by
  have H := Lib.hid (fun w => k110 c hc n hn w)
  generalize (c.any fun y => y.toNat == n) = r at *
  clear hc hn
  go_enter Tryz.func77, Tryz.ntmps77
  go_wp2_with (go_at_call 78; refine (H.out _).mono ?_; rintro e w1 ⟨rfl, hb⟩; have HB := Lib.hid hb; clear hb)
  go_ret
  exact ⟨rfl, HB.out⟩
set_option maxHeartbeats 2000000 in
theorem k121 (c s : Bs) (hc : ∀ y ∈ c, y.toNat < 128) (hs : ∀ y ∈ s, y.toNat < 128) (B : Nat) (w : World) (h0 : w.cell? ⟨B, 0, none⟩ = some (.string (bytesOf c))) :
    Calls Tryz.prog 87 #[.string (bytesOf s), .func (.func 77) #[] #[.pointer (some ⟨B, 0, none⟩)], .bool true] w fun e w' => (∃ i : Int, e = .returned (.int .i64 i) ∧ (i = -1 ↔ ∀ y ∈ s, (c.any fun z => z.toNat == y.toNat) = true)) ∧ Below w.heap.size w w' := by
  have HC := Lib.hid (And.intro hc hs)
  have HB0 := Lib.hid (And.intro h0 (World.block_lt_of_cell? w _ h0))
  clear hc hs h0
  go_enter Tryz.func87, Tryz.ntmps87
  go_wp2
  go_loopg [] s.length (fun gf wx => ∃ pos : Nat, pos + gf = s.length ∧ wx.heap[w.heap.size]? = some (.stringIter (bytesOf s) pos) ∧ Below w.heap.size w wx ∧ ∀ i (h : i < s.length), i < pos → (c.any fun z => z.toNat == (s[i]'h).toNat) = true)
  case atStart => exact ⟨0, by omega, World.iter_heap w _ 0, (Below.refl _ w).alloc (Nat.le_refl _) _, fun i h h' => by omega⟩
  case round =>
    obtain ⟨pos, hpg, hit, hbw, hleft⟩ := hrel
    have HL := Lib.hid hleft
    clear hleft
    by_cases hps : pos < s.length
    · obtain ⟨g', rfl⟩ : ∃ g', gk = g' + 1 := ⟨gk - 1, by omega⟩
      have hnx := iter_next hit hps (HC.out.2 _ (List.getElem_mem hps))
      have hit2 := Lib.iterAt_heap wr w.heap.size _ pos (pos + 1) hit
      have hbw2 := Lib.below_iterAt hbw (k := w.heap.size) (Nat.le_refl _) (bytesOf s) (pos + 1)
      obtain ⟨W, hWd⟩ : ∃ W, wr.iterAt w.heap.size (bytesOf s) (pos + 1) = W := ⟨_, rfl⟩
      rw [hWd] at hnx hit2 hbw2
      have HY := Lib.hid (List.getElem_mem hps)
      obtain ⟨y, hy⟩ : ∃ y, s[pos]'hps = y := ⟨_, rfl⟩
      have HYE := Lib.hid hy
      rw [hy] at hnx HY
      have HB := Lib.hid (And.intro hit2 hbw2)
      have H := Lib.hid (k109 c HC.out.1 y.toNat (HC.out.2 y HY.out) B W ((hbw2.cell (p := ⟨B, 0, none⟩) HB0.out.2).trans HB0.out.1))
      obtain ⟨r, hr⟩ : ∃ r, (c.any fun z => z.toNat == y.toNat) = r := ⟨_, rfl⟩
      rw [hr] at H
      have HR := Lib.hid hr
      clear hr hy hWd hbw hit hit2 hbw2
      cases r
      · go_wp2_with (refine H.out.mono ?_; rintro e w2 ⟨rfl, hb⟩; have HW := Lib.hid hb; clear hb)
        go_ret
        refine ⟨⟨_, rfl, ⟨fun h => by omega, fun h => ?_⟩⟩, HB.out.2.trans (HW.out.mono HB.out.2.size)⟩
        have := h y HY.out
        rw [HR.out] at this; cases this
      · go_wp2_with (refine H.out.mono ?_; rintro e w2 ⟨rfl, hb⟩; have HW := Lib.hid hb; clear hb)
        go_roundg g'
        case measure => omega
        case rel =>
          refine ⟨pos + 1, by omega, jblk' HW.out HB.out.1, HB.out.2.trans (HW.out.mono HB.out.2.size), fun i h h' => ?_⟩
          by_cases hi : i = pos
          · subst hi; rw [HYE.out]; exact HR.out
          · exact HL.out i h (by omega)
    · have hnx := iter_end hit hps
      have HB := Lib.hid hbw
      clear hbw
      go_wp2
      go_ret
      refine ⟨⟨_, rfl, ⟨fun _ y hy => ?_, fun _ => rfl⟩⟩, HB.out⟩
      obtain ⟨i, hi, rfl⟩ := List.getElem_of_mem hy
      exact HL.out i hi (by omega)
theorem k92 (c s : Bs) (hc : ∀ y ∈ c, y.toNat < 128) (hs : ∀ y ∈ s, y.toNat < 128) (w : World) :
    Calls Tryz.prog 66 #[.string (bytesOf s), .string (bytesOf c)] w fun e w' => e = .returned (.bool (s.all fun y => c.any fun z => z.toNat == y.toNat)) ∧ Below w.heap.size w w' := by
  have hal := (Below.refl _ w).alloc (Nat.le_refl _) (.cells #[.string (bytesOf c)] 9)
  have H := Lib.hid (k121 c s hc hs w.heap.size (w.alloc (.cells #[.string (bytesOf c)] 9)) (cell_of_row _ _ 0 _ _ _ (heap_alloc_new w _)))
  have HA := Lib.hid hal
  clear hc hs hal
  go_enter Tryz.func66, Tryz.ntmps66
  go_wp2_with (first
    | (go_at_call 76; go_in)
    | (go_at_call 87; refine H.out.mono ?_; rintro e w1 ⟨⟨i, rfl, hi⟩, hb⟩; have HB := Lib.hid (And.intro hi hb); clear hi hb)
    | go_in)
  go_ret
  refine ⟨?_, HA.out.trans (HB.out.2.mono HA.out.size)⟩
  have h := HB.out.1
  have e : (s.all fun y => c.any fun z => z.toNat == y.toNat) = (i == -1) := by
    rw [Bool.eq_iff_iff]
    simp [h]
  rw [e]
  rfl
end Go.Proofs.YthejepmnnpmdmaaGreatDoor.Sv
end
section
set_option linter.unusedVariables false
set_option linter.unusedSimpArgs false
/- a version is read loosely -/
namespace Go.Proofs.YthejepmnnpmdmaaGreatDoor.Sv
open Go Go.RowKit Rx
set_option maxRecDepth 100000
theorem u52e : Tryz.prog.underlying 29 = some (.slice 9) := Tryz.underlying29
theorem q52 (w : World) (a : Option Addr) (n c : Nat) : (binOp .eql 29 (.slice a n c) (.slice none 0 0)).run Tryz.prog w = .ok (.bool a.isNone) w := Lib.run_eql_slice_nil w 29 9 a n c 0 0 Tryz.underlying29
/-- a piece in memory -/
theorem piece_cell {w' : World} {b k : Nat} {f : Nat → ByteArray} (h : w'.heap[b]? = some (.cells (strs ((List.range k).map f)) 9 (0, 0))) (i : Nat) (hi : i < k) : w'.cell? ⟨b, i, none⟩ = some (.string (f i)) := by
  rw [cell_of_row _ _ _ _ _ _ h]
  simp [strs, hi]
/-- a version under way: its block, the pieces, the world before -/
structure VAt (w : World) (V bp : Nat) (cs ps : Array Value) (W : World) : Prop where
  v : W.heap[V]? = some (.cells cs 65 (0, 0))
  p : W.heap[bp]? = some (.cells ps 9 (0, 0))
  b : Below w.heap.size w W
  h : w.heap.size ≤ V
theorem VAt.keep {w W W' : World} {V bp : Nat} {cs ps : Array Value} (h : VAt w V bp cs ps W) (hb : Below W.heap.size W W') : VAt w V bp cs ps W' :=
  ⟨(hb.block V (Array.getElem?_eq_some_iff.1 h.v).1).trans h.v, (hb.block bp (Array.getElem?_eq_some_iff.1 h.p).1).trans h.p, h.b.trans (hb.mono h.b.size), h.h⟩
theorem VAt.store {w W : World} {V bp : Nat} {cs ps : Array Value} (h : VAt w V bp cs ps W) (i : Nat) (v : Value) : VAt w V bp (cs.setIfInBounds i v) ps (W.setCell ⟨V, i, none⟩ v) :=
  ⟨heap_setCell_same W V i cs 65 v h.v, (heap_setCell_other _ _ _ _ (typ_ne h.p h.v (by decide))).trans h.p, h.b.setCell (p := ⟨V, i, none⟩) h.h _, h.h⟩
theorem VAt.cell {w W : World} {V bp : Nat} {cs ps : Array Value} (h : VAt w V bp cs ps W) (i : Nat) (v : Value) (hv : cs[i]? = some v) : W.cell? ⟨V, i, none⟩ = some v := by rw [cell_of_row _ _ _ _ _ _ h.v, hv]
theorem VAt.piece {w W : World} {V bp : Nat} {cs ps : Array Value} (h : VAt w V bp cs ps W) (i : Nat) (v : Value) (hv : ps[i]? = some v) : W.cell? ⟨bp, i, none⟩ = some v := by rw [cell_of_row _ _ _ _ _ _ h.p, hv]
theorem VAt.fz {w W : World} {V bp : Nat} {cs ps : Array Value} (h : VAt w V bp cs ps W) (i : Nat) : W.frozen? ⟨V, i, none⟩ = false := frozen_of_row _ _ _ _ _ h.v
set_option maxHeartbeats 4000000 in
theorem tCoerce3 (x : Ver) (hx : x.Ok dB iB) (r2 r3 : Bs) (h2 : x.p2 = some r2) (h3 : x.p3 = some r3) (hpre : x.pre = none) (hmeta : x.meta_ = none) (a b c : Nat) (ha : Lib.parseUintB 64 x.p1 = .ok a) (hb : Lib.parseUintB 64 r2 = .ok b) (hc : Lib.parseUintB 64 r3 = .ok c)
    (hl : x.text.length ≤ 256) (w : World) (hT : Lib.Utf8Tabs 11 12 w) :
    Calls Tryz.prog 61 #[.string (bytesOf x.text)] w fun e w' => ∃ V, e = .returned (.tuple #[.pointer (some ⟨V, 0, none⟩), .nilIface]) ∧ w.heap.size ≤ V ∧ w'.heap[V]? = some (.cells #[.int .u64 a, .int .u64 b, .int .u64 c, .string ⟨#[]⟩, .string ⟨#[]⟩, .string (bytesOf x.text)] 65 (0, 0)) ∧ Below w.heap.size w w' := by
  have hlen : x.p1.length + (r2.length + 1 + (r3.length + 1)) ≤ x.text.length := by
    rw [Ver.text, h2, h3]; simp [ptext]; omega
  have H61 := Lib.hid (fun (w : World) (R PB IB icap : Nat) (hp : PG w R PB IB icap looseT) (hr : RH w R PB 4 1 20 1 9) (hT : Lib.Utf8Tabs 11 12 w) => looseM (s := bytesOf x.text) hp hr hT (by rw [bytesOf_size]; omega) hx rfl)
  have HA := Lib.hid (fun w => tParse a x.p1 ha (by omega) w)
  have HB := Lib.hid (fun w => tParse b r2 hb (by omega) w)
  have HC := Lib.hid (fun w => tParse c r3 hc (by omega) w)
  have HT := Lib.hid hT
  have HTa := Lib.hid (fun w => tTrimDot (46 :: r2) (.inr ⟨_, rfl⟩) (by simp; omega) w)
  have HTb := Lib.hid (fun w => tTrimDot (46 :: r3) (.inr ⟨_, rfl⟩) (by simp; omega) w)
  have q := q52
  rw [h2, h3, hpre, hmeta] at H61
  clear hx h2 h3 hpre hmeta ha hb hc hT hlen hl
  generalize bytesOf x.text = s at *
  generalize x.p1 = r1 at *
  go_enter Tryz.func61, Tryz.ntmps61
  go_wp2_with (first
    | (go_at_call 75; refine (t107 w).mono ?_; rintro e w1 ⟨R, PB, IB, icap, rfl, hp, hr, hb⟩; have HP := Lib.hid (And.intro hp (And.intro hr (And.intro (Utf8Tabs_below HT.out hb) hb))); clear hp hr hb)
    | (go_at_call 45; refine (H61.out _ _ _ _ _ HP.out.1 HP.out.2.1 HP.out.2.2.1).mono ?_; rintro e w2 ⟨hb2, f, ⟨bp, rfl, h1, h2⟩, e1, e2, e3, e5, e8⟩; have c1 := piece_cell h2 1 (by decide); have c2 := piece_cell h2 2 (by decide); have c3 := piece_cell h2 3 (by decide); have c5 := piece_cell h2 5 (by decide); have c8 := piece_cell h2 8 (by decide); rw [e1] at c1; rw [e2] at c2; rw [e3] at c3; rw [e5] at c5; rw [e8] at c8; have HB2 := Lib.hid (And.intro h1 (And.intro h2 (HP.out.2.2.2.trans (hb2.mono HP.out.2.2.2.size)))); clear hb2 h1 h2 e1 e2 e3 e5 e8))
  simp only [gpre] at *
  go_region
  have hst : VAt w w2.heap.size bp #[.int .u64 0, .int .u64 0, .int .u64 0, .string ⟨#[]⟩, .string ⟨#[]⟩, .string s] (strs ((List.range 10).map f)) ((w2.alloc (.cells #[.int .u64 0, .int .u64 0, .int .u64 0, .string (bytesOf []), .string (bytesOf []), .string s] 65)).drew) := by
    obtain ⟨k1, k2, k3⟩ := HB2.out
    refine ⟨heap_alloc_new w2 _, (Below.heap_alloc w2 _ bp (Array.getElem?_eq_some_iff.1 k2).1).trans k2, (k3.alloc k3.size _).drew, k3.size⟩
  have e1 : (strs ((List.range 10).map f))[1]? = some (.string (bytesOf r1)) := by rw [← c1, cell_of_row _ _ _ _ _ _ HB2.out.2.1]
  have e2 : (strs ((List.range 10).map f))[2]? = some (.string (bytesOf (ptext (some r2)))) := by rw [← c2, cell_of_row _ _ _ _ _ _ HB2.out.2.1]
  have e3 : (strs ((List.range 10).map f))[3]? = some (.string (bytesOf (ptext (some r3)))) := by rw [← c3, cell_of_row _ _ _ _ _ _ HB2.out.2.1]
  have HE := Lib.hid (And.intro e1 (And.intro e2 e3))
  clear c1 c2 c3 c5 c8 e1 e2 e3
  generalize (w2.alloc (.cells #[.int .u64 0, .int .u64 0, .int .u64 0, .string (bytesOf []), .string (bytesOf []), .string s] 65)).drew = W3 at *
  generalize strs ((List.range 10).map f) = ps at *
  generalize w2.heap.size = V at *
  have HS := Lib.hid hst
  have c1 := hst.piece 1 _ HE.out.1
  clear hst
  go_upto_region 9 with (first
    | (go_at_call 67; refine (HA.out _).mono ?_; rintro e w4 ⟨rfl, hb4⟩; have hst4 := HS.out.keep hb4; have HS4 := Lib.hid hst4; have v0 := hst4.cell 0 _ rfl; have fz0 := hst4.fz 0; clear hb4 hst4)
    | go_in)
  have HS := Lib.hid (HS4.out.store 0 (.int .u64 a))
  clear HS4 v0 fz0 c1
  generalize w4.setCell ⟨V, 0, none⟩ (.int .u64 a) = W5 at *
  have c1 := HS.out.piece 2 _ HE.out.2.1
  simp only [ptext] at c1
  have n1 := bytesOf_toList (46 :: r2)
  go_upto_region 14 with (first
    | (go_at_call 47; refine (HTa.out _).mono ?_; rintro e w6 ⟨rfl, hw⟩; subst hw; rw [show (46 :: r2 : Bs).tail = r2 from rfl])
    | (go_at_call 67; refine (HB.out _).mono ?_; rintro e w4 ⟨rfl, hb4⟩; have hst4 := HS.out.keep hb4; have HS4 := Lib.hid hst4; have v0 := hst4.cell 1 _ rfl; have fz0 := hst4.fz 1; clear hb4 hst4)
    | go_in)
  have HS := Lib.hid (HS4.out.store 1 (.int .u64 b))
  clear HS4 v0 fz0 c1 n1
  generalize w4.setCell ⟨V, 1, none⟩ (.int .u64 b) = W6 at *
  have c1 := HS.out.piece 3 _ HE.out.2.2
  simp only [ptext] at c1
  have n1 := bytesOf_toList (46 :: r3)
  go_upto_region 19 with (first
    | (go_at_call 47; refine (HTb.out _).mono ?_; rintro e w6 ⟨rfl, hw⟩; subst hw; rw [show (46 :: r3 : Bs).tail = r3 from rfl])
    | (go_at_call 67; refine (HC.out _).mono ?_; rintro e w4 ⟨rfl, hb4⟩; have hst4 := HS.out.keep hb4; have HS4 := Lib.hid hst4; have v0 := hst4.cell 2 _ rfl; have fz0 := hst4.fz 2; clear hb4 hst4)
    | go_in)
  have HS := Lib.hid (HS4.out.store 2 (.int .u64 c))
  clear HS4 v0 fz0 c1 n1
  generalize w4.setCell ⟨V, 2, none⟩ (.int .u64 c) = W7 at *
  have v3 := HS.out.cell 3 _ rfl
  have v4 := HS.out.cell 4 _ rfl
  go_wp2_with go_in
  go_ret2
  exact ⟨V, rfl, HS.out.h, HS.out.v, HS.out.b⟩
/-- a version that was read -/
def VerAt (W : World) (V : Nat) (a b c : Nat) (pre me orig : Bs) : Prop := W.heap[V]? = some (.cells #[.int .u64 a, .int .u64 b, .int .u64 c, .string (bytesOf pre), .string (bytesOf me), .string (bytesOf orig)] 65 (0, 0))
theorem tNewVer3 (x : Ver) (hx : x.Ok dB iB) (r2 r3 : Bs) (h2 : x.p2 = some r2) (h3 : x.p3 = some r3) (hpre : x.pre = none) (hmeta : x.meta_ = none) (a b c : Nat) (ha : Lib.parseUintB 64 x.p1 = .ok a) (hb : Lib.parseUintB 64 r2 = .ok b) (hc : Lib.parseUintB 64 r3 = .ok c)
    (hl : x.text.length ≤ 256) (w : World) (hT : Lib.Utf8Tabs 11 12 w) :
    Calls Tryz.prog 48 #[.string (bytesOf x.text)] w fun e w' => ∃ V, e = .returned (.tuple #[.pointer (some ⟨V, 0, none⟩), .nilIface]) ∧ w.heap.size ≤ V ∧ VerAt w' V a b c [] [] x.text ∧ Below w.heap.size w w' := by
  have H := Lib.hid (tCoerce3 x hx r2 r3 h2 h3 hpre hmeta a b c ha hb hc hl w hT)
  have k1 : ¬ (256 : Int) < ((bytesOf x.text).size : Int) := by rw [bytesOf_size]; omega
  clear hx h2 h3 hpre hmeta ha hb hc hl hT
  unfold VerAt
  generalize bytesOf x.text = s at *
  go_enter Tryz.func48, Tryz.ntmps48
  go_wp2_with (go_at_call 61; refine H.out.mono ?_; rintro e w1 ⟨V, rfl, h1, h2, h3⟩; have HV := Lib.hid (And.intro h1 (And.intro h2 h3)); clear h1 h2 h3)
  go_ret2
  exact ⟨V, rfl, HV.out⟩
end Go.Proofs.YthejepmnnpmdmaaGreatDoor.Sv
end
section
set_option linter.unusedVariables false
set_option linter.unusedSimpArgs false
/- one term is read -/
namespace Go.Proofs.YthejepmnnpmdmaaGreatDoor.Sv
open Go Go.RowKit Rx
set_option maxRecDepth 100000
structure CAt (w : World) (V bp : Nat) (cs ps : Array Value) (W : World) : Prop where
  v : W.heap[V]? = some (.cells cs 68 (0, 0))
  p : W.heap[bp]? = some (.cells ps 9 (0, 0))
  b : Below w.heap.size w W
  h : w.heap.size ≤ V
theorem CAt.keep {w W W' : World} {V bp : Nat} {cs ps : Array Value} (h : CAt w V bp cs ps W) (hb : Below W.heap.size W W') : CAt w V bp cs ps W' :=
  ⟨(hb.block V (Array.getElem?_eq_some_iff.1 h.v).1).trans h.v, (hb.block bp (Array.getElem?_eq_some_iff.1 h.p).1).trans h.p, h.b.trans (hb.mono h.b.size), h.h⟩
theorem CAt.store {w W : World} {V bp : Nat} {cs ps : Array Value} (h : CAt w V bp cs ps W) (i : Nat) (v : Value) : CAt w V bp (cs.setIfInBounds i v) ps (W.setCell ⟨V, i, none⟩ v) :=
  ⟨heap_setCell_same W V i cs 68 v h.v, (heap_setCell_other _ _ _ _ (typ_ne h.p h.v (by decide))).trans h.p, h.b.setCell (p := ⟨V, i, none⟩) h.h _, h.h⟩
theorem CAt.cell {w W : World} {V bp : Nat} {cs ps : Array Value} (h : CAt w V bp cs ps W) (i : Nat) (v : Value) (hv : cs[i]? = some v) : W.cell? ⟨V, i, none⟩ = some v := by rw [cell_of_row _ _ _ _ _ _ h.v, hv]
theorem CAt.piece {w W : World} {V bp : Nat} {cs ps : Array Value} (h : CAt w V bp cs ps W) (i : Nat) (v : Value) (hv : ps[i]? = some v) : W.cell? ⟨bp, i, none⟩ = some v := by rw [cell_of_row _ _ _ _ _ _ h.p, hv]
theorem CAt.fz {w W : World} {V bp : Nat} {cs ps : Array Value} (h : CAt w V bp cs ps W) (i : Nat) : W.frozen? ⟨V, i, none⟩ = false := frozen_of_row _ _ _ _ _ h.v
def isXb (t : Bs) : Bool := t == [120] || t == [42] || t == [88]
/-- a term that was read -/
def ConAt (W : World) (C : Nat) (V : Nat) (orig op : Bs) (md d pd : Bool) : Prop := W.heap[C]? = some (.cells #[.pointer (some ⟨V, 0, none⟩), .string (bytesOf orig), .string (bytesOf op), .bool md, .bool d, .bool pd] 68 (0, 0))
theorem tIsXb (t : Bs) (w : World) : Calls Tryz.prog 46 #[.string (bytesOf t)] w fun e w' => e = .returned (.bool (isXb t)) ∧ w' = w := by
  have := tIsX (bytesOf t) w
  rw [bytesOf_toList] at this
  exact this
/-- what reading a version's text does, with its digits -/
def Reads (yt : Bs) (a b c : Nat) (pre me : Bs) : Prop := ∀ w, Lib.Utf8Tabs 11 12 w → Calls Tryz.prog 48 #[.string (bytesOf yt)] w fun e w' => ∃ V, e = .returned (.tuple #[.pointer (some ⟨V, 0, none⟩), .nilIface]) ∧ w.heap.size ≤ V ∧ VerAt w' V a b c pre me yt ∧ Below w.heap.size w w'
set_option maxHeartbeats 4000000 in
theorem t44full (x : Tm) {L RR : Bs} {s : ByteArray} (hs : s.size ≤ 1000) (hx : x.Ok) (ht : s.data.toList = L ++ (x.text ++ RR)) (hL : ∀ y ∈ L, ws y = true) (hR : ∀ y ∈ RR, ws y = true) (h0 : x.op = [] → x.blank = [])
    (r2 r3 : Bs) (h2 : x.ver.p2 = some r2) (h3 : x.ver.p3 = some r3) (x1 : isXb x.ver.p1 = false) (x2 : isXb r2 = false) (x3 : isXb r3 = false) (a b c : Nat) (pre me : Bs) (hv : Reads x.ver.text a b c pre me) (w : World) (hT : Lib.Utf8Tabs 11 12 w) :
    Calls Tryz.prog 31 #[.string s] w fun e w' => ∃ C V, e = .returned (.tuple #[.pointer (some ⟨C, 0, none⟩), .nilIface]) ∧ w.heap.size ≤ C ∧ w.heap.size ≤ V ∧ ConAt w' C V x.ver.text x.op false false false ∧ VerAt w' V a b c pre me x.ver.text ∧ Below w.heap.size w w' := by
  have hsz : L.length + (x.text.length + RR.length) = s.size := by rw [← list_size, ht]; simp
  have hxp := tm_pos hx
  have hlen : x.ver.p1.length + (r2.length + 1 + (r3.length + 1)) ≤ x.text.length := by
    rw [Tm.text, Ver.text, h2, h3]; simp [ptext]; omega
  have hp1 : (bytesOf x.ver.p1).toList.isEmpty = false := by
    rw [bytesOf_toList]
    have := hx.ver.p1.1
    cases h : x.ver.p1 with
    | nil => exact absurd h this
    | cons y l => rfl
  have k0 : (0 : Int) < (s.size : Int) := by omega
  have H61 := Lib.hid (fun (w : World) (R PB IB icap : Nat) (hp : PG w R PB IB icap conT) (hr : RH w R PB 4 1 24 1 11) (hT : Lib.Utf8Tabs 11 12 w) => conM (s := s) hp hr hT hs hx ht hL hR h0)
  have HT := Lib.hid hT
  have HTa := Lib.hid (fun w => tTrimDot (46 :: r2) (.inr ⟨_, rfl⟩) (by simp; omega) w)
  have HTb := Lib.hid (fun w => tTrimDot (46 :: r3) (.inr ⟨_, rfl⟩) (by simp; omega) w)
  have HX1 := Lib.hid (fun w => tIsXb x.ver.p1 w)
  have HX2 := Lib.hid (fun w => tIsXb r2 w)
  have HX3 := Lib.hid (fun w => tIsXb r3 w)
  have HV := Lib.hid hv
  have q := q52
  have n2 := bytesOf_toList (46 :: r2)
  have n3 := bytesOf_toList (46 :: r3)
  rw [h2, h3] at H61
  rw [x1] at HX1
  rw [x2] at HX2
  rw [x3] at HX3
  clear hx ht hL hR h0 h2 h3 x1 x2 x3 hv hT hsz hxp hlen hs
  simp only [ptext] at H61
  generalize x.ver.text = yt at *
  generalize x.ver.p1 = r1 at *
  generalize x.op = op at *
  generalize gtext 45 x.ver.pre = g6 at *
  go_enter Tryz.func31, Tryz.ntmps31
  go_wp2_with (first
    | (go_at_call 44; refine (t60 w).mono ?_; rintro e w1 ⟨R, PB, IB, icap, rfl, hp, hr, hb⟩; have HP := Lib.hid (And.intro hp (And.intro hr (And.intro (Utf8Tabs_below HT.out hb) hb))); clear hp hr hb)
    | (go_at_call 45; refine (H61.out _ _ _ _ _ HP.out.1 HP.out.2.1 HP.out.2.2.1).mono ?_; rintro e w2 ⟨hb2, f, ⟨bp, rfl, h1, h2⟩, e1, e2, e3, e4, e5, e6⟩; have c1 := piece_cell h2 1 (by decide); have c2 := piece_cell h2 2 (by decide); have c3 := piece_cell h2 3 (by decide); have c4 := piece_cell h2 4 (by decide); have c5 := piece_cell h2 5 (by decide); have c6 := piece_cell h2 6 (by decide); rw [e1] at c1; rw [e2] at c2; rw [e3] at c3; rw [e4] at c4; rw [e5] at c5; rw [e6] at c6; have HB2 := Lib.hid (And.intro h1 (And.intro h2 (HP.out.2.2.2.trans (hb2.mono HP.out.2.2.2.size)))); clear hb2 h1 h2 e1 e2 e3 e4 e5 e6))
  go_region
  have hst : CAt w w2.heap.size bp #[.pointer none, .string (bytesOf yt), .string (bytesOf op), .bool false, .bool false, .bool false] (strs ((List.range 12).map f)) ((w2.alloc (.cells #[.pointer none, .string (bytesOf yt), .string (bytesOf op), .bool false, .bool false, .bool false] 68)).drew) := by
    obtain ⟨k1, k2, k3⟩ := HB2.out
    exact ⟨heap_alloc_new w2 _, (Below.heap_alloc w2 _ bp (Array.getElem?_eq_some_iff.1 k2).1).trans k2, (k3.alloc k3.size _).drew, k3.size⟩
  have e2 : (strs ((List.range 12).map f))[2]? = some (.string (bytesOf yt)) := by rw [← c2, cell_of_row _ _ _ _ _ _ HB2.out.2.1]
  have e3 : (strs ((List.range 12).map f))[3]? = some (.string (bytesOf r1)) := by rw [← c3, cell_of_row _ _ _ _ _ _ HB2.out.2.1]
  have e4 : (strs ((List.range 12).map f))[4]? = some (.string (bytesOf (46 :: r2))) := by rw [← c4, cell_of_row _ _ _ _ _ _ HB2.out.2.1]
  have e5 : (strs ((List.range 12).map f))[5]? = some (.string (bytesOf (46 :: r3))) := by rw [← c5, cell_of_row _ _ _ _ _ _ HB2.out.2.1]
  clear c1 c2 c3 c4 c5 c6
  generalize (w2.alloc (.cells #[.pointer none, .string (bytesOf yt), .string (bytesOf op), .bool false, .bool false, .bool false] 68)).drew = W3 at *
  generalize strs ((List.range 12).map f) = ps at *
  generalize w2.heap.size = C at *
  have HS := Lib.hid hst
  have c2 := hst.piece 2 _ e2
  have c3 := hst.piece 3 _ e3
  have c4 := hst.piece 4 _ e4
  have c5 := hst.piece 5 _ e5
  clear hst e2 e3 e4 e5
  go_upto_region 21 with (first
    | (go_at_call 46; first | (refine (HX1.out _).mono ?_; rintro e w6 ⟨rfl, hw⟩; subst hw) | (refine (HX2.out _).mono ?_; rintro e w6 ⟨rfl, hw⟩; subst hw) | (refine (HX3.out _).mono ?_; rintro e w6 ⟨rfl, hw⟩; subst hw))
    | (go_at_call 47; first | (refine (HTa.out _).mono ?_; rintro e w6 ⟨rfl, hw⟩; subst hw; rw [show (46 :: r2 : Bs).tail = r2 from rfl]) | (refine (HTb.out _).mono ?_; rintro e w6 ⟨rfl, hw⟩; subst hw; rw [show (46 :: r3 : Bs).tail = r3 from rfl]))
    | go_in)
  clear c2 c3 c4 c5 n2 n3 k0
  have HU := Lib.hid (Utf8Tabs_below HT.out HS.out.b)
  go_wp2_with (go_at_call 48; refine (HV.out _ HU.out).mono ?_; rintro e w7 ⟨V, rfl, hVs, hVa, hb7⟩; have hst4 := HS.out.keep hb7; have HS4 := Lib.hid hst4; have HW := Lib.hid (And.intro hVs hVa); have v0 := hst4.cell 0 _ rfl; have v3 := hst4.cell 3 _ rfl; have v4 := hst4.cell 4 _ rfl; have v5 := hst4.cell 5 _ rfl; have z0 := hst4.fz 0; have z3 := hst4.fz 3; have z4 := hst4.fz 4; have z5 := hst4.fz 5; clear hb7 hst4 hVs hVa)
  go_ret2
  have hfin := (((HS4.out.store 0 (.pointer (some ⟨V, 0, none⟩))).store 3 (.bool false)).store 5 (.bool false)).store 4 (.bool false)
  have hne : V ≠ C := typ_ne HW.out.2 HS4.out.v (by decide)
  refine ⟨C, V, rfl, hfin.h, Nat.le_trans HS.out.b.size HW.out.1, hfin.v, ?_, hfin.b⟩
  unfold VerAt
  rw [heap_setCell_other _ _ _ _ hne, heap_setCell_other _ _ _ _ hne, heap_setCell_other _ _ _ _ hne, heap_setCell_other _ _ _ _ hne]
  exact HW.out.2
end Go.Proofs.YthejepmnnpmdmaaGreatDoor.Sv
end
section
set_option linter.unusedVariables false
set_option linter.unusedSimpArgs false
/- terms, lists of terms, in memory -/
namespace Go.Proofs.YthejepmnnpmdmaaGreatDoor.Sv
open Go Go.RowKit Rx
set_option maxRecDepth 100000
structure TD where
  op : Bs
  orig : Bs
  md : Bool
  d : Bool
  pd : Bool
  a : Nat
  b : Nat
  c : Nat
  pre : Bs
  me : Bs
  vt : Bs
def TDAt (W : World) (C : Nat) (t : TD) : Prop := ∃ V, ConAt W C V t.orig t.op t.md t.d t.pd ∧ VerAt W V t.a t.b t.c t.pre t.me t.vt
/-- all but one block is as it was -/
def Kp (X : Nat) (W W' : World) : Prop := ∀ k, k < W.heap.size → k ≠ X → W'.heap[k]? = W.heap[k]?
theorem Kp.of (X : Nat) {W W' : World} (h : Below W.heap.size W W') : Kp X W W' := fun k hk _ => h.block k hk
theorem Kp.setCell (X i : Nat) (W : World) (v : Value) : Kp X W (W.setCell ⟨X, i, none⟩ v) := fun k _ hn => heap_setCell_other _ _ _ _ hn
/-- the block that may turn holds neither a term nor a version -/
def Free (X : Nat) (W : World) : Prop := ∀ cs t f, W.heap[X]? = some (.cells cs t f) → t ≠ 68 ∧ t ≠ 65
theorem TDAt.kp {W W' : World} {C X : Nat} {t : TD} (h : TDAt W C t) (hk : Kp X W W') (hf : Free X W) : TDAt W' C t := by
  obtain ⟨V, h1, h2⟩ := h
  have n1 : C ≠ X := fun e => by subst e; exact (hf _ _ _ h1).1 rfl
  have n2 : V ≠ X := fun e => by subst e; exact (hf _ _ _ h2).2 rfl
  exact ⟨V, (hk C (Array.getElem?_eq_some_iff.1 h1).1 n1).trans h1, (hk V (Array.getElem?_eq_some_iff.1 h2).1 n2).trans h2⟩
theorem TDAt.keep {W W' : World} {C : Nat} {t : TD} (h : TDAt W C t) (hb : Below W.heap.size W W') : TDAt W' C t := by
  obtain ⟨V, h1, h2⟩ := h
  exact ⟨V, (hb.block C (Array.getElem?_eq_some_iff.1 h1).1).trans h1, (hb.block V (Array.getElem?_eq_some_iff.1 h2).1).trans h2⟩
def ptr (C : Nat) : Value := .pointer (some ⟨C, 0, none⟩)
/-- the terms stand at these places -/
def TDs (W : World) : List Nat → List TD → Prop
  | [], [] => True
  | C :: Cs, t :: ts => TDAt W C t ∧ TDs W Cs ts
  | _, _ => False
theorem TDs.length {W : World} : ∀ {Cs : List Nat} {ts : List TD}, TDs W Cs ts → Cs.length = ts.length
  | [], [], _ => rfl
  | C :: Cs, t :: ts, h => by simp [TDs.length h.2]
  | [], _ :: _, h => h.elim
  | _ :: _, [], h => h.elim
theorem TDs.kp {W W' : World} {X : Nat} (hk : Kp X W W') (hf : Free X W) : ∀ {Cs : List Nat} {ts : List TD}, TDs W Cs ts → TDs W' Cs ts
  | [], [], _ => trivial
  | C :: Cs, t :: ts, h => ⟨h.1.kp hk hf, TDs.kp hk hf h.2⟩
  | [], _ :: _, h => h.elim
  | _ :: _, [], h => h.elim
theorem TDs.keep {W W' : World} (hb : Below W.heap.size W W') : ∀ {Cs : List Nat} {ts : List TD}, TDs W Cs ts → TDs W' Cs ts
  | [], [], _ => trivial
  | C :: Cs, t :: ts, h => ⟨h.1.keep hb, TDs.keep hb h.2⟩
  | [], _ :: _, h => h.elim
  | _ :: _, [], h => h.elim
theorem TDs.snoc {W : World} {C : Nat} {t : TD} (h : TDAt W C t) : ∀ {Cs : List Nat} {ts : List TD}, TDs W Cs ts → TDs W (Cs ++ [C]) (ts ++ [t])
  | [], [], _ => ⟨h, trivial⟩
  | D :: Cs, u :: ts, g => ⟨g.1, TDs.snoc h g.2⟩
  | [], _ :: _, g => g.elim
  | _ :: _, [], g => g.elim
theorem TDs.get {W : World} : ∀ {Cs : List Nat} {ts : List TD} {i : Nat} {t : TD}, TDs W Cs ts → ts[i]? = some t → ∃ C, Cs[i]? = some C ∧ TDAt W C t
  | [], [], i, t, _, h => by simp at h
  | C :: Cs, u :: ts, 0, t, g, h => by simp at h; subst h; exact ⟨C, rfl, g.1⟩
  | C :: Cs, u :: ts, i + 1, t, g, h => by simpa using TDs.get g.2 (by simpa using h)
  | [], _ :: _, _, _, g, _ => g.elim
  | _ :: _, [], _, _, g, _ => g.elim
/-- a row of pointers, the rest of it nil -/
def ptrRow (Cs : List Nat) (n : Nat) : Array Value := (Cs.map ptr ++ List.replicate (n - Cs.length) (Value.pointer none)).toArray
/-- a row that grows from the left: a cell is written -/
theorem fill_step (l : List Value) (n : Nat) (v z : Value) (h : l.length < n) : ((l ++ List.replicate (n - l.length) z).toArray.setIfInBounds l.length v) = ((l ++ [v]) ++ List.replicate (n - (l ++ [v]).length) z).toArray := by
  obtain ⟨m, hm⟩ : ∃ m, n - l.length = m + 1 := ⟨n - l.length - 1, by omega⟩
  have e : n - (l ++ [v]).length = m := by simp; omega
  rw [hm, e, List.replicate_succ]
  apply Array.toList_inj.1
  simp
theorem ptrRow_step (Cs : List Nat) (n C : Nat) (h : Cs.length < n) : (ptrRow Cs n).setIfInBounds Cs.length (ptr C) = ptrRow (Cs ++ [C]) n := by
  have := fill_step (Cs.map ptr) n (ptr C) (.pointer none) (by simpa using h)
  simpa [ptrRow] using this
/-- a list of terms in memory -/
def RowAt (W : World) (X : Nat) (ts : List TD) : Prop := ∃ Cs, W.heap[X]? = some (.cells (ptrRow Cs ts.length) 61 (0, 0)) ∧ TDs W Cs ts
theorem RowAt.kp {W W' : World} {R X : Nat} {ts : List TD} (h : RowAt W R ts) (hk : Kp X W W') (hf : Free X W) (hn : R ≠ X) : RowAt W' R ts := by
  obtain ⟨Cs, h1, h2⟩ := h
  exact ⟨Cs, (hk R (Array.getElem?_eq_some_iff.1 h1).1 hn).trans h1, h2.kp hk hf⟩
theorem RowAt.keep {W W' : World} {R : Nat} {ts : List TD} (h : RowAt W R ts) (hb : Below W.heap.size W W') : RowAt W' R ts := by
  obtain ⟨Cs, h1, h2⟩ := h
  exact ⟨Cs, (hb.block R (Array.getElem?_eq_some_iff.1 h1).1).trans h1, h2.keep hb⟩
def Rows (W : World) : List Nat → List (List TD) → Prop
  | [], [] => True
  | X :: Xs, ts :: gs => RowAt W X ts ∧ Rows W Xs gs
  | _, _ => False
theorem Rows.length {W : World} : ∀ {Xs : List Nat} {gs : List (List TD)}, Rows W Xs gs → Xs.length = gs.length
  | [], [], _ => rfl
  | _ :: Xs, _ :: gs, h => by simp [Rows.length h.2]
  | [], _ :: _, h => h.elim
  | _ :: _, [], h => h.elim
theorem Rows.kp {W W' : World} {X : Nat} (hk : Kp X W W') (hf : Free X W) : ∀ {Xs : List Nat} {gs : List (List TD)}, Rows W Xs gs → X ∉ Xs → Rows W' Xs gs
  | [], [], _, _ => trivial
  | R :: Xs, t :: gs, h, hn => ⟨h.1.kp hk hf (fun e => hn (by simp [e])), Rows.kp hk hf h.2 (fun e => hn (by simp [e]))⟩
  | [], _ :: _, h, _ => h.elim
  | _ :: _, [], h, _ => h.elim
theorem Rows.keep {W W' : World} (hb : Below W.heap.size W W') : ∀ {Xs : List Nat} {gs : List (List TD)}, Rows W Xs gs → Rows W' Xs gs
  | [], [], _ => trivial
  | R :: Xs, t :: gs, h => ⟨h.1.keep hb, Rows.keep hb h.2⟩
  | [], _ :: _, h => h.elim
  | _ :: _, [], h => h.elim
theorem Rows.snoc {W : World} {X : Nat} {ts : List TD} (h : RowAt W X ts) : ∀ {Xs : List Nat} {gs : List (List TD)}, Rows W Xs gs → Rows W (Xs ++ [X]) (gs ++ [ts])
  | [], [], _ => ⟨h, trivial⟩
  | _ :: Xs, _ :: gs, g => ⟨g.1, Rows.snoc h g.2⟩
  | [], _ :: _, g => g.elim
  | _ :: _, [], g => g.elim
theorem Rows.get {W : World} : ∀ {Xs : List Nat} {gs : List (List TD)} {i : Nat} {ts : List TD}, Rows W Xs gs → gs[i]? = some ts → ∃ X, Xs[i]? = some X ∧ RowAt W X ts
  | [], [], i, t, _, h => by simp at h
  | X :: Xs, u :: gs, 0, t, g, h => by simp at h; subst h; exact ⟨X, rfl, g.1⟩
  | X :: Xs, u :: gs, i + 1, t, g, h => by simpa using Rows.get g.2 (by simpa using h)
  | [], _ :: _, _, _, g, _ => g.elim
  | _ :: _, [], _, _, g, _ => g.elim
theorem Rows.mem_lt {W : World} : ∀ {Xs : List Nat} {gs : List (List TD)}, Rows W Xs gs → ∀ X ∈ Xs, ∃ cs, W.heap[X]? = some (.cells cs 61 (0, 0))
  | [], [], _, X, h => by cases h
  | X :: Xs, u :: gs, g, Y, h => by
    rcases List.mem_cons.1 h with rfl | h
    · obtain ⟨Cs, h1, _⟩ := g.1; exact ⟨_, h1⟩
    · exact Rows.mem_lt g.2 Y h
  | [], _ :: _, g, _, _ => g.elim
  | _ :: _, [], g, _, _ => g.elim
def rowVal (X : Nat) (ts : List TD) : Value := .slice (some ⟨X, 0, none⟩) ts.length ts.length
def rowVals : List Nat → List (List TD) → List Value
  | X :: Xs, ts :: gs => rowVal X ts :: rowVals Xs gs
  | _, _ => []
theorem rowVals_length : ∀ {Xs : List Nat} {gs : List (List TD)}, Xs.length = gs.length → (rowVals Xs gs).length = gs.length
  | [], [], _ => rfl
  | _ :: Xs, _ :: gs, h => by simp [rowVals, rowVals_length (Xs := Xs) (gs := gs) (by simpa using h)]
  | [], _ :: _, h => by simp at h
  | _ :: _, [], h => by simp at h
theorem rowVals_snoc {X : Nat} {ts : List TD} : ∀ {Xs : List Nat} {gs : List (List TD)}, Xs.length = gs.length → rowVals (Xs ++ [X]) (gs ++ [ts]) = rowVals Xs gs ++ [rowVal X ts]
  | [], [], _ => rfl
  | _ :: Xs, _ :: gs, h => by simp [rowVals, rowVals_snoc (Xs := Xs) (gs := gs) (by simpa using h)]
  | [], _ :: _, h => by simp at h
  | _ :: _, [], h => by simp at h
theorem rowVals_get : ∀ {Xs : List Nat} {gs : List (List TD)} {i : Nat} {X : Nat} {ts : List TD}, Xs[i]? = some X → gs[i]? = some ts → (rowVals Xs gs)[i]? = some (rowVal X ts)
  | X :: Xs, t :: gs, 0, Y, ts, h, g => by simp at h g; subst h g; rfl
  | X :: Xs, t :: gs, i + 1, Y, ts, h, g => by simpa [rowVals] using rowVals_get (Xs := Xs) (gs := gs) (by simpa using h) (by simpa using g)
  | [], _, _, _, _, h, _ => by simp at h
  | _ :: _, [], _, _, _, _, g => by simp at g
/-- a prerelease stands in the list -/
def anyPre (ts : List TD) : Bool := ts.any fun t => !t.pre.isEmpty
/-- the constraints of a text, in memory -/
def ConsAt (W : World) (O : Nat) (gs : List (List TD)) (inc : Bool) : Prop := ∃ OR HP Xs, W.heap[O]? = some (.cells #[.slice (some ⟨OR, 0, none⟩) gs.length gs.length, .slice (some ⟨HP, 0, none⟩) gs.length gs.length, .bool inc] 70 (0, 0)) ∧
  W.heap[OR]? = some (.cells (rowVals Xs gs).toArray 60 (0, 0)) ∧ W.heap[HP]? = some (.cells ((gs.map anyPre).map Value.bool).toArray 4 (0, 0)) ∧ Rows W Xs gs
end Go.Proofs.YthejepmnnpmdmaaGreatDoor.Sv
end
section
set_option linter.unusedVariables false
set_option linter.unusedSimpArgs false
/- a constraint's text is read -/
namespace Go.Proofs.YthejepmnnpmdmaaGreatDoor.Sv
open Go Go.RowKit Rx
set_option maxRecDepth 100000
theorem info60 : (Tryz.prog.info? 60).map (fun i => (i.zero, i.size, i.bytes)) = some (some (.slice none 0 0), 1, 24) := by kernel_rfl
theorem info4 : (Tryz.prog.info? 4).map (fun i => (i.zero, i.size, i.bytes)) = some (some (.bool false), 1, 1) := by kernel_rfl
theorem info61 : (Tryz.prog.info? 61).map (fun i => (i.zero, i.size, i.bytes)) = some (some (.pointer none), 1, 8) := by kernel_rfl
def reps (n : Nat) (z : Value) : Array Value := (List.replicate n z).toArray
theorem mk47 (n : Nat) (hn : n ≤ 1000) (w : World) : (Instr.makeSlice 54 (.int .i64 n) (.int .i64 n)).run Tryz.prog w = .ok (.slice (some ⟨w.heap.size, 0, none⟩) n n) (w.alloc (.cells (reps n (.slice none 0 0)) 60)) := by
  rw [run_make_row' 54 60 (.slice none 0 0) 24 Tryz.underlying54 info60 rfl .i64 .i64 n (by omega) (by omega) w]
  congr 3
  apply Array.ext'
  rw [toList_madeCells_one]
  rfl
theorem mk48 (n : Nat) (hn : n ≤ 1000) (w : World) : (Instr.makeSlice 55 (.int .i64 n) (.int .i64 n)).run Tryz.prog w = .ok (.slice (some ⟨w.heap.size, 0, none⟩) n n) (w.alloc (.cells (reps n (.bool false)) 4)) := by
  rw [run_make_row' 55 4 (.bool false) 1 Tryz.underlying55 info4 rfl .i64 .i64 n (by omega) (by omega) w]
  congr 3
  apply Array.ext'
  rw [toList_madeCells_one]
  rfl
theorem mk60 (n : Nat) (hn : n ≤ 1000) (w : World) : (Instr.makeSlice 60 (.int .i64 n) (.int .i64 n)).run Tryz.prog w = .ok (.slice (some ⟨w.heap.size, 0, none⟩) n n) (w.alloc (.cells (reps n (.pointer none)) 61)) := by
  rw [run_make_row' 60 61 (.pointer none) 8 Tryz.underlying60 info61 rfl .i64 .i64 n (by omega) (by omega) w]
  congr 3
  apply Array.ext'
  rw [toList_madeCells_one]
  rfl
theorem own_cells {W : World} {base n cap ob : Nat} {e : TypeId} {xs : List Value} (h : W.ownsRow base e 1 (.slice (some ⟨ob, 0, none⟩) n cap) n xs) (hn : 0 < n) : ∃ cur, W.heap[ob]? = some (.cells cur e (0, 0)) ∧ ∀ (j : Nat) (v : Value), xs[j]? = some v → cur[j]? = some v := by
  rcases h.2 with ⟨hv, _⟩ | ⟨g, c, cur, q1, q2, q3, q4, q5, q6, q7⟩
  · cases hv
  · cases q1
    refine ⟨cur, q3, fun j v hj => ?_⟩
    rw [← q7, List.getElem?_take] at hj
    split at hj
    · simpa using hj
    · cases hj
/-- what is known of one list's text -/
structure GSpec (v : ByteArray) (tx : List Bs) (ts : List TD) : Prop where
  valid : ∀ (w : World) (R PB IB icap : Nat), PG w R PB IB icap validT → RH w R PB 4 1 50 1 24 → Lib.Utf8Tabs 11 12 w → Calls Tryz.prog 27 #[.pointer (some ⟨R, 0, none⟩), .string v] w fun e w' => e = .returned (.bool true) ∧ Below w.heap.size w w'
  find : ∀ (w : World) (R PB IB icap : Nat), PG w R PB IB icap findT → RH w R PB 0 1 24 1 11 → Lib.Utf8Tabs 11 12 w → Calls Tryz.prog 30 #[.pointer (some ⟨R, 0, none⟩), .string v, .int .i64 (-1)] w fun e w' => ∃ u, e = .returned u ∧ w'.ownsRow w.heap.size 9 1 u tx.length (tx.map fun t => Value.string (bytesOf t)) ∧ Below w.heap.size w w'
  len : tx.length = ts.length
  pos : 0 < tx.length
  le : tx.length ≤ 1000
  each : ∀ (i : Nat) (x : Bs) (t : TD), tx[i]? = some x → ts[i]? = some t → ∀ w, Lib.Utf8Tabs 11 12 w → Calls Tryz.prog 31 #[.string (bytesOf x)] w fun e w' => ∃ C, e = .returned (.tuple #[ptr C, .nilIface]) ∧ w.heap.size ≤ C ∧ TDAt w' C t ∧ Below w.heap.size w w'
/-- between two lists -/
structure NOut (w : World) (ob OR HP : Nat) (ocur : Array Value) (gs : List (List TD)) (k : Nat) (Xs : List Nat) (W : World) : Prop where
  o : W.heap[ob]? = some (.cells ocur 9 (0, 0))
  r : W.heap[OR]? = some (.cells (rowVals Xs (gs.take k) ++ List.replicate (gs.length - k) (Value.slice none 0 0)).toArray 60 (0, 0))
  h : W.heap[HP]? = some (.cells (((gs.take k).map anyPre).map Value.bool ++ List.replicate (gs.length - k) (Value.bool false)).toArray 4 (0, 0))
  rows : Rows W Xs (gs.take k)
  b : Below w.heap.size w W
  l1 : w.heap.size ≤ OR
  l2 : w.heap.size ≤ HP
/-- within a list -/
structure NIn (w : World) (ob OR HP : Nat) (ocur : Array Value) (gs : List (List TD)) (k : Nat) (Xs : List Nat) (ts : List TD) (cb : Nat) (ccur : Array Value) (RX i : Nat) (Cs : List Nat) (pr : Bool) (W : World) : Prop where
  o : W.heap[ob]? = some (.cells ocur 9 (0, 0))
  r : W.heap[OR]? = some (.cells (rowVals Xs (gs.take k) ++ List.replicate (gs.length - k) (Value.slice none 0 0)).toArray 60 (0, 0))
  h : W.heap[HP]? = some (.cells (((gs.take k).map anyPre).map Value.bool ++ Value.bool pr :: List.replicate (gs.length - (k + 1)) (Value.bool false)).toArray 4 (0, 0))
  rows : Rows W Xs (gs.take k)
  c : W.heap[cb]? = some (.cells ccur 9 (0, 0))
  x : W.heap[RX]? = some (.cells (ptrRow Cs ts.length) 61 (0, 0))
  t : TDs W Cs (ts.take i)
  nx : RX ∉ Xs
  b : Below w.heap.size w W
  l1 : w.heap.size ≤ OR
  l2 : w.heap.size ≤ HP
  l3 : w.heap.size ≤ RX
section
variable {w : World} {ob OR HP : Nat} {ocur : Array Value} {gs : List (List TD)} {k : Nat} {Xs : List Nat} {ts : List TD} {cb : Nat} {ccur : Array Value} {RX i : Nat} {Cs : List Nat} {pr : Bool} {W W' : World}
theorem blk {W W' : World} {j : Nat} {o : Obj} (hb : Below W.heap.size W W') (h : W.heap[j]? = some o) : W'.heap[j]? = some o := (hb.block j (Array.getElem?_eq_some_iff.1 h).1).trans h
theorem NOut.keep (h : NOut w ob OR HP ocur gs k Xs W) (hb : Below W.heap.size W W') : NOut w ob OR HP ocur gs k Xs W' :=
  ⟨blk hb h.o, blk hb h.r, blk hb h.h, h.rows.keep hb, h.b.trans (hb.mono h.b.size), h.l1, h.l2⟩
theorem NIn.keep (h : NIn w ob OR HP ocur gs k Xs ts cb ccur RX i Cs pr W) (hb : Below W.heap.size W W') : NIn w ob OR HP ocur gs k Xs ts cb ccur RX i Cs pr W' :=
  ⟨blk hb h.o, blk hb h.r, blk hb h.h, h.rows.keep hb, blk hb h.c, blk hb h.x, h.t.keep hb, h.nx, h.b.trans (hb.mono h.b.size), h.l1, h.l2, h.l3⟩
theorem free_of {W : World} {X : Nat} {cs : Array Value} {t : TypeId} (h : W.heap[X]? = some (.cells cs t (0, 0))) (h1 : t ≠ 68) (h2 : t ≠ 65) : Free X W := fun cs' t' f' h' => by
  rw [h] at h'; injection h' with h'; injection h' with e1 e2 e3; subst e2; exact ⟨h1, h2⟩
theorem oth {W : World} {X j i : Nat} {v : Value} {o : Obj} (h : W.heap[j]? = some o) (hn : j ≠ X) : (W.setCell ⟨X, i, none⟩ v).heap[j]? = some o := (heap_setCell_other _ _ _ _ hn).trans h
theorem NOut.start (h : NOut w ob OR HP ocur gs k Xs W) (hk : k < gs.length) (ts : List TD) {cb : Nat} {ccur : Array Value} {RX : Nat} (hc : W.heap[cb]? = some (.cells ccur 9 (0, 0))) (hx : W.heap[RX]? = some (.cells (reps ts.length (.pointer none)) 61 (0, 0))) (hnx : RX ∉ Xs) (h3 : w.heap.size ≤ RX) :
    NIn w ob OR HP ocur gs k Xs ts cb ccur RX 0 [] false W := by
  refine ⟨h.o, h.r, ?_, h.rows, hc, by rw [hx]; simp [ptrRow, reps], by simp [TDs], hnx, h.b, h.l1, h.l2, h3⟩
  rw [h.h]
  obtain ⟨m, hm⟩ : ∃ m, gs.length - k = m + 1 := ⟨gs.length - k - 1, by omega⟩
  rw [hm, show gs.length - (k + 1) = m by omega, List.replicate_succ]
theorem set_mid (A : List Value) (x y : Value) (B : List Value) (k : Nat) (h : A.length = k) : (A ++ x :: B).toArray.setIfInBounds k y = (A ++ y :: B).toArray := by
  subst h
  apply Array.toList_inj.1
  simp
theorem NIn.pre (h : NIn w ob OR HP ocur gs k Xs ts cb ccur RX i Cs pr W) (hk : k < gs.length) : NIn w ob OR HP ocur gs k Xs ts cb ccur RX i Cs true (W.setCell ⟨HP, k, none⟩ (.bool true)) := by
  have hf := free_of h.h (by decide) (by decide)
  have hkp := Kp.setCell HP k W (.bool true)
  have hl : (((gs.take k).map anyPre).map Value.bool).length = k := by simp; omega
  have hnr : HP ∉ Xs := fun hm => by
    obtain ⟨cs, hc⟩ := h.rows.mem_lt HP hm
    exact typ_ne h.h hc (by decide) rfl
  refine ⟨oth h.o (typ_ne h.o h.h (by decide)), oth h.r (typ_ne h.r h.h (by decide)), ?_, h.rows.kp hkp hf hnr, oth h.c (typ_ne h.c h.h (by decide)), oth h.x (typ_ne h.x h.h (by decide)), h.t.kp hkp hf, h.nx, h.b.setCell (p := ⟨HP, k, none⟩) h.l2 _, h.l1, h.l2, h.l3⟩
  rw [heap_setCell_same W HP k _ 4 _ h.h]
  rw [set_mid _ _ _ _ _ hl]
theorem NIn.term (h : NIn w ob OR HP ocur gs k Xs ts cb ccur RX i Cs pr W) {C : Nat} {t : TD} (ht : ts[i]? = some t) (hi : Cs.length = i) (hC : TDAt W C t) : NIn w ob OR HP ocur gs k Xs ts cb ccur RX (i + 1) (Cs ++ [C]) pr (W.setCell ⟨RX, i, none⟩ (ptr C)) := by
  have hf := free_of h.x (by decide) (by decide)
  have hkp := Kp.setCell RX i W (ptr C)
  have hlt : i < ts.length := (List.getElem?_eq_some_iff.1 ht).1
  refine ⟨oth h.o (typ_ne h.o h.x (by decide)), oth h.r (typ_ne h.r h.x (by decide)), oth h.h (typ_ne h.h h.x (by decide)), h.rows.kp hkp hf h.nx, oth h.c (typ_ne h.c h.x (by decide)), ?_, ?_, h.nx, h.b.setCell (p := ⟨RX, i, none⟩) h.l3 _, h.l1, h.l2, h.l3⟩
  · rw [heap_setCell_same W RX i _ 61 _ h.x, ← hi, ptrRow_step Cs ts.length C (by omega)]
  · rw [List.take_add_one, ht]
    exact TDs.snoc (hC.kp hkp hf) (h.t.kp hkp hf)
theorem NIn.done (h : NIn w ob OR HP ocur gs k Xs ts cb ccur RX i Cs pr W) (hi : i = ts.length) (hg : gs[k]? = some ts) (hpr : pr = anyPre ts) (hX : Xs.length = k) : NOut w ob OR HP ocur gs (k + 1) (Xs ++ [RX]) (W.setCell ⟨OR, k, none⟩ (rowVal RX ts)) := by
  have hf := free_of h.r (by decide) (by decide)
  have hkp := Kp.setCell OR k W (rowVal RX ts)
  have hlt : k < gs.length := (List.getElem?_eq_some_iff.1 hg).1
  have htk : (gs.take k).length = k := by simp; omega
  have hrl : (rowVals Xs (gs.take k)).length = k := by rw [rowVals_length (by omega)]; exact htk
  have hnr : OR ∉ Xs := fun hm => by
    obtain ⟨cs, hc⟩ := h.rows.mem_lt OR hm
    exact typ_ne h.r hc (by decide) rfl
  have hne : RX ≠ OR := typ_ne h.x h.r (by decide)
  have hrow : RowAt W RX ts := ⟨Cs, h.x, by have := h.t; rwa [hi, List.take_length] at this⟩
  have e1 : gs.take (k + 1) = gs.take k ++ [ts] := by rw [List.take_add_one, hg]; rfl
  refine ⟨oth h.o (typ_ne h.o h.r (by decide)), ?_, ?_, ?_, h.b.setCell (p := ⟨OR, k, none⟩) h.l1 _, h.l1, h.l2⟩
  · rw [heap_setCell_same W OR k _ 60 _ h.r, e1, rowVals_snoc (by omega)]
    have := fill_step (rowVals Xs (gs.take k)) gs.length (rowVal RX ts) (.slice none 0 0) (by omega)
    rw [hrl] at this
    rw [this]
    simp [hrl]
  · rw [oth h.h (typ_ne h.h h.r (by decide)), e1, hpr]
    simp
  · rw [e1]
    exact Rows.snoc (hrow.kp hkp hf hne) (h.rows.kp hkp hf hnr)
end
set_option maxHeartbeats 4000000 in
theorem t31 (s : ByteArray) (hs : s.size ≤ 512) (hrw : noWD s.data.toList = true) (Vs : List ByteArray) (hp : Parted ⟨#[124, 124]⟩ s Vs) (hn : Vs.length ≤ 32) (Ts : List (List Bs)) (gs : List (List TD)) (hl1 : Ts.length = Vs.length) (hl2 : gs.length = Vs.length)
    (hG : ∀ (k : Nat) (v : ByteArray) (tx : List Bs) (ts : List TD), Vs[k]? = some v → Ts[k]? = some tx → gs[k]? = some ts → GSpec v tx ts) (w : World) (hT : Lib.Utf8Tabs 11 12 w) :
    Calls Tryz.prog 15 #[.string s] w fun e w' => ∃ O, e = .returned (.tuple #[ptr O, .nilIface]) ∧ w.heap.size ≤ O ∧ ConsAt w' O gs false ∧ Below w.heap.size w w' := by
  have hnz : 0 < Vs.length := List.length_pos_iff.2 hp.ne
  have k0 : ¬ (512 : Int) < (s.size : Int) := by omega
  have k1 : ¬ (32 : Int) < (Vs.length : Int) := by omega
  have HR := Lib.hid (tRewrite s w (by omega) hT hrw)
  have HP := Lib.hid (fun w => t38 s ⟨#[124, 124]⟩ Vs hp (by omega) (by decide) (by decide) w)
  have HG := Lib.hid hG
  have HL := Lib.hid (And.intro hl1 hl2)
  have HT := Lib.hid hT
  have m47 := mk47 Vs.length (by omega)
  have m48 := mk48 Vs.length (by omega)
  clear hs hrw hp hG hT hl1 hl2
  go_enter Tryz.func15, Tryz.ntmps15
  go_upto_region 10 with (first
    | (go_at_call 24; refine HR.out.mono ?_; rintro e w1 ⟨rfl, hb1⟩; have HB1 := Lib.hid hb1; clear hb1)
    | (go_at_call 25; refine (HP.out _).mono ?_; rintro e w2 ⟨v2, rfl, ho, hb2⟩; obtain ⟨ob, oc, hv2, hob⟩ := World.ownsRow.form ho hnz; subst hv2; obtain ⟨ocur, hob2, hoc⟩ := own_cells ho hnz; have HO := Lib.hid (And.intro hob2 (And.intro hoc (HB1.out.trans (hb2.mono HB1.out.size)))); clear ho hb2 hob hob2 hoc))
  have hst : NOut w ob w2.heap.size (w2.heap.size + 1) ocur gs 0 [] ((w2.alloc (.cells (reps Vs.length (.slice none 0 0)) 60)).alloc (.cells (reps Vs.length (.bool false)) 4)) := by
    obtain ⟨h1, h2, h3⟩ := HO.out
    obtain ⟨l1, l2⟩ := HL.out
    have hobs := (Array.getElem?_eq_some_iff.1 h1).1
    refine ⟨?_, ?_, ?_, by simp [Rows], (h3.alloc h3.size _).alloc (by have := h3.size; simp; omega) _, h3.size, by have := h3.size; omega⟩
    · rw [Below.heap_alloc _ _ _ (by simp; omega), Below.heap_alloc _ _ _ hobs, h1]
    · rw [Below.heap_alloc _ _ _ (by simp), heap_alloc_new w2 _, l2]; simp [rowVals, reps]
    · have := heap_alloc_new (w2.alloc (.cells (reps Vs.length (.slice none 0 0)) 60)) (.cells (reps Vs.length (.bool false)) 4 (0, 0))
      rw [World.size_alloc] at this
      rw [this, l2]; simp [reps]
  generalize ((w2.alloc (.cells (reps Vs.length (.slice none 0 0)) 60)).alloc (.cells (reps Vs.length (.bool false)) 4)) = W3 at *
  generalize w2.heap.size + 1 = HPb at *
  generalize w2.heap.size = OR at *
  have HS := Lib.hid hst
  clear hst m47 m48 k1
  go_wp2
  go_loopw [37] (fun kv W => ∃ (k : Nat) (Xs : List Nat), kv = .int .i64 k ∧ Hid (k ≤ Vs.length ∧ NOut w ob OR HPb ocur gs k Xs W)) (fun kv _ => 100 - (intOf kv).toNat)
  case atStart => exact ⟨0, [], rfl, Lib.hid ⟨Nat.zero_le _, HS.out⟩⟩
  case round =>
    obtain ⟨k, Xs, rfl, HK⟩ := hrel
    by_cases c : k < Vs.length
    · have c1 : (k : Int) < (Vs.length : Int) := by omega
      obtain ⟨v, hv⟩ : ∃ v, Vs[k]? = some v := ⟨_, List.getElem?_eq_getElem c⟩
      obtain ⟨tx, htx⟩ : ∃ tx, Ts[k]? = some tx := ⟨_, List.getElem?_eq_getElem (by have := HL.out.1; omega)⟩
      obtain ⟨ts, hts⟩ : ∃ ts, gs[k]? = some ts := ⟨_, List.getElem?_eq_getElem (by have := HL.out.2; omega)⟩
      have hg := HG.out k v tx ts hv htx hts
      have q0 : wr.cell? ⟨ob, k, none⟩ = some (.string v) := by rw [cell_of_row _ _ _ _ _ _ HK.out.2.o, HO.out.2.1 k (.string v) (by simp [hv])]
      have HGS := Lib.hid hg
      have hpos := hg.pos
      have m60 := mk60 tx.length hg.le
      have q := q52
      have HC := Lib.hid (And.intro c hts)
      clear hv htx hts hg c
      go_upto_region 19 with (first
        | (go_at_call 26; refine (t39 _).mono ?_; rintro e w4 ⟨R, PB, IB, icap, rfl, hp, hr, hb⟩; have HA := Lib.hid (And.intro hp (And.intro hr hb)); clear hp hr hb)
        | (go_at_call 27; refine (HGS.out.valid _ _ _ _ _ HA.out.1 HA.out.2.1 (Utf8Tabs_below HT.out (HK.out.2.keep HA.out.2.2).b)).mono ?_; rintro e w5 ⟨rfl, hb5⟩; have HD := Lib.hid (HA.out.2.2.trans (hb5.mono HA.out.2.2.size)); clear hb5)
        | (go_at_call 29; refine (t42 _).mono ?_; rintro e w6 ⟨R, PB, IB, icap, rfl, hp, hr, hb⟩; have HA2 := Lib.hid (And.intro hp (And.intro hr (HD.out.trans (hb.mono HD.out.size)))); clear hp hr hb)
        | (go_at_call 30; refine (HGS.out.find _ _ _ _ _ HA2.out.1 HA2.out.2.1 (Utf8Tabs_below HT.out (HK.out.2.keep HA2.out.2.2).b)).mono ?_; rintro e w7 ⟨u, rfl, ho, hb7⟩; obtain ⟨cb, cc, hvu, hcb⟩ := World.ownsRow.form ho hpos; subst hvu; obtain ⟨ccur, h1, h2⟩ := own_cells ho hpos; have HF := Lib.hid (And.intro h1 (And.intro h2 (HA2.out.2.2.trans (hb7.mono HA2.out.2.2.size)))); clear ho hb7 hcb h1 h2))
      have hkp := HK.out.2.keep HF.out.2.2
      have hin : NIn w ob OR HPb ocur gs k Xs ts cb ccur w7.heap.size 0 [] false (w7.alloc (.cells (reps tx.length (.pointer none)) 61)) := by
        refine (hkp.keep ((Below.refl _ w7).alloc (Nat.le_refl _) _)).start (by have := HC.out.1; have := HL.out.2; omega) ts ?_ ?_ ?_ hkp.b.size
        · rw [Below.heap_alloc _ _ _ (Array.getElem?_eq_some_iff.1 HF.out.1).1, HF.out.1]
        · rw [heap_alloc_new w7 _, HGS.out.len]
        · intro hm
          obtain ⟨cs, hc⟩ := hkp.rows.mem_lt _ hm
          have := (Array.getElem?_eq_some_iff.1 hc).1
          omega
      generalize w7.alloc (.cells (reps tx.length (.pointer none)) 61) = W8 at *
      generalize w7.heap.size = RX at *
      have HN := Lib.hid hin
      have HX := Lib.hid (show Xs.length = k by have := hkp.rows.length; simp at this; have h1 := HC.out.1; have h2 := HL.out.2; omega)
      clear hin hkp m60 q q0 c1
      go_wp2
      go_loopw [61] (fun iv W => ∃ (i : Nat) (Cs : List Nat), iv = .int .i64 i ∧ Hid (i ≤ tx.length ∧ Cs.length = i ∧ NIn w ob OR HPb ocur gs k Xs ts cb ccur RX i Cs (anyPre (ts.take i)) W)) (fun iv _ => 2000 - (intOf iv).toNat)
      case atStart => exact ⟨0, [], rfl, Lib.hid ⟨Nat.zero_le _, rfl, HN.out⟩⟩
      case round =>
        obtain ⟨i, Cs, rfl, HI⟩ := hrel
        by_cases c : i < tx.length
        · have c1 : (i : Int) < (tx.length : Int) := by omega
          obtain ⟨x, hx⟩ : ∃ x, tx[i]? = some x := ⟨_, List.getElem?_eq_getElem c⟩
          obtain ⟨t, ht⟩ : ∃ t, ts[i]? = some t := ⟨_, List.getElem?_eq_getElem (by rw [← HGS.out.len]; exact c)⟩
          have q0 : wr.cell? ⟨cb, i, none⟩ = some (.string (bytesOf x)) := by rw [cell_of_row _ _ _ _ _ _ HI.out.2.2.c, HF.out.2.1 i (.string (bytesOf x)) (by simp [hx])]
          have HE := Lib.hid (HGS.out.each i x t hx ht)
          have HCI := Lib.hid (And.intro c ht)
          clear hx ht c
          go_upto_region 23 with (go_at_call 31; refine (HE.out _ (Utf8Tabs_below HT.out HI.out.2.2.b)).mono ?_; rintro e w9 ⟨C, rfl, hC1, hC2, hb9⟩; have HY := Lib.hid (And.intro (HI.out.2.2.keep hb9) hC2); clear hC1 hC2 hb9)
          obtain ⟨V, hcon, hver⟩ := HY.out.2
          have p0 : w9.cell? ⟨C, 0, none⟩ = some (.pointer (some ⟨V, 0, none⟩)) := cell_of_row _ _ 0 _ _ _ hcon
          have p3 : w9.cell? ⟨V, 3, none⟩ = some (.string (bytesOf t.pre)) := cell_of_row _ _ 3 _ _ _ hver
          clear hcon hver
          simp only [ptr] at HY ⊢
          have hx1 := HY.out.1
          have r0 : ∃ z, w9.cell? ⟨RX, i, none⟩ = some z := by
            have : i < (ptrRow Cs ts.length).size := by have := HGS.out.len; have := HCI.out.1; have := HI.out.2.1; simp [ptrRow]; omega
            exact ⟨_, by rw [cell_of_row _ _ _ _ _ _ hx1.x, Array.getElem?_eq_getElem this]⟩
          obtain ⟨z, r0⟩ := r0
          have rf := frozen_of_row _ _ i _ _ hx1.x
          have hle := HGS.out.le
          have kN : (k : Int) < (Vs.length : Int) := by have := HC.out.1; omega
          have hne : HPb ≠ RX := typ_ne hx1.h hx1.x (by decide)
          have hl : i < (ts.take i).length + 1 := by have := HGS.out.len; have := HCI.out.1; simp; omega
          have hany : anyPre (ts.take (i + 1)) = (anyPre (ts.take i) || !t.pre.isEmpty) := by
            rw [List.take_add_one, HCI.out.2]; simp [anyPre]
          have HZ := Lib.hid hany
          clear hx1 hl hany
          rcases hpre : t.pre with _ | ⟨y, pr⟩
          · rw [hpre] at p3 HZ
            have n1 := bytesOf_toList []
            go_wp2
            refine ⟨⟨i + 1, Cs ++ [C], by simp, Lib.hid ⟨by have := HCI.out.1; omega, by simp [HI.out.2.1], ?_⟩⟩, by simp only [intOf]; have := HCI.out.1; omega⟩
            rw [HZ.out]
            have := HY.out.1.term HCI.out.2 HI.out.2.1 HY.out.2
            simpa [ptr] using this
          · rw [hpre] at p3 HZ
            have n1 := bytesOf_toList (y :: pr)
            have h0 : ∃ z, w9.cell? ⟨HPb, k, none⟩ = some z := by
              refine ⟨.bool (anyPre (ts.take i)), ?_⟩
              rw [cell_of_row _ _ _ _ _ _ HY.out.1.h]
              have hl : (((gs.take k).map anyPre).map Value.bool).length = k := by simp; have := HC.out.1; have := HL.out.2; omega
              simp only [List.getElem?_toArray]
              rw [List.getElem?_append_right (by omega), hl, Nat.sub_self]
              rfl
            obtain ⟨z0, h0⟩ := h0
            have hf := frozen_of_row _ _ k _ _ HY.out.1.h
            go_wp2
            refine ⟨⟨i + 1, Cs ++ [C], by simp, Lib.hid ⟨by have := HCI.out.1; omega, by simp [HI.out.2.1], ?_⟩⟩, by simp only [intOf]; have := HCI.out.1; omega⟩
            rw [HZ.out]
            have hk : k < gs.length := by have := HC.out.1; have := HL.out.2; omega
            have hfr := free_of HY.out.1.h (by decide) (by decide)
            have := (HY.out.1.pre hk).term HCI.out.2 HI.out.2.1 (HY.out.2.kp (Kp.setCell HPb k w9 (.bool true)) hfr)
            simpa [ptr] using this
        · have hit : i = tx.length := by have := HI.out.1; omega
          subst hit
          clear c
          have kN : (k : Int) < (Vs.length : Int) := by have := HC.out.1; omega
          have r0 : ∃ z, wr.cell? ⟨OR, k, none⟩ = some z := by
            have h1 := HC.out.1
            have h2 := HL.out.2
            have hx := HX.out
            have h3 : (rowVals Xs (gs.take k)).length = k := by rw [rowVals_length (by simp; omega)]; simp; omega
            have : k < (rowVals Xs (gs.take k) ++ List.replicate (gs.length - k) (Value.slice none 0 0)).toArray.size := by simp [h3]; omega
            exact ⟨_, by rw [cell_of_row _ _ _ _ _ _ HI.out.2.2.r, Array.getElem?_eq_getElem this]⟩
          obtain ⟨z, r0⟩ := r0
          have rf := frozen_of_row _ _ k _ _ HI.out.2.2.r
          go_wp2
          refine ⟨⟨k + 1, Xs ++ [RX], by simp, Lib.hid ⟨by have := HC.out.1; omega, ?_⟩⟩, by simp only [intOf]; have := HC.out.1; omega⟩
          have hlen := HGS.out.len
          have hd := HI.out.2.2.done hlen HC.out.2 (by rw [hlen, List.take_length]) HX.out
          unfold rowVal at hd
          rw [← hlen] at hd
          exact hd
    · have hkn : k = Vs.length := by have := HK.out.1; omega
      subst hkn
      clear c
      go_wp2
      go_ret2
      have hN := HK.out.2
      have hlg := HL.out.2
      have hb : Below wr.heap.size wr (wr.alloc (.cells #[.slice (some ⟨OR, 0, none⟩) Vs.length Vs.length, .slice (some ⟨HPb, 0, none⟩) Vs.length Vs.length, .bool false] 70)) := (Below.refl _ wr).alloc (Nat.le_refl _) _
      have h2 := hN.keep hb
      have et : gs.take Vs.length = gs := by rw [← hlg, List.take_length]
      have en : gs.length - Vs.length = 0 := by omega
      refine ⟨wr.heap.size, rfl, hN.b.size, ⟨OR, HPb, Xs, by rw [hlg]; exact heap_alloc_new wr _, ?_, ?_, ?_⟩, h2.b⟩
      · have := h2.r; rw [et, en] at this; simpa using this
      · have := h2.h; rw [et, en] at this; simpa using this
      · have := h2.rows; rwa [et] at this
end Go.Proofs.YthejepmnnpmdmaaGreatDoor.Sv
end
section
set_option linter.unusedVariables false
set_option linter.unusedSimpArgs false
/- a good prerelease, good metadata are taken -/
namespace Go.Proofs.YthejepmnnpmdmaaGreatDoor.Sv
open Go Go.RowKit Rx
set_option maxRecDepth 100000
def numC : Bs := [48, 49, 50, 51, 52, 53, 54, 55, 56, 57]
def allC : Bs := [97, 98, 99, 100, 101, 102, 103, 104, 105, 106, 107, 108, 109, 110, 111, 112, 113, 114, 115, 116, 117, 118, 119, 120, 121, 122, 65, 66, 67, 68, 69, 70, 71, 72, 73, 74, 75, 76, 77, 78, 79, 80, 81, 82, 83, 84, 85, 86, 87, 88, 89, 90, 45, 48, 49, 50, 51, 52, 53, 54, 55, 56, 57]
theorem num_dB (y : UInt8) : (numC.any fun z => z.toNat == y.toNat) = dB y := by
  have := byte_all (p := fun y => (numC.any fun z => z.toNat == y.toNat) == dB y) (by decide) y
  simpa using this
theorem all_iB (y : UInt8) (h : iB y = true) : (allC.any fun z => z.toNat == y.toNat) = true ∧ y.toNat < 128 := by
  have := byte_all (p := fun y => !iB y || ((allC.any fun z => z.toNat == y.toNat) && decide (y.toNat < 128))) (by decide) y
  simpa [h] using this
theorem numC_lt : ∀ y ∈ numC, y.toNat < 128 := by decide
theorem allC_lt : ∀ y ∈ allC, y.toNat < 128 := by decide
theorem k92num (i : Bs) (hi : ∀ y ∈ i, iB y = true) (w : World) : Calls Tryz.prog 66 #[.string (bytesOf i), .string (bytesOf numC)] w fun e w' => e = .returned (.bool (i.all dB)) ∧ Below w.heap.size w w' := by
  have h := k92 numC i numC_lt (fun y hy => (all_iB y (hi y hy)).2) w
  simp only [num_dB] at h
  exact h
theorem k92all (i : Bs) (hi : ∀ y ∈ i, iB y = true) (w : World) : Calls Tryz.prog 66 #[.string (bytesOf i), .string (bytesOf allC)] w fun e w' => e = .returned (.bool true) ∧ Below w.heap.size w w' := by
  have h := k92 allC i allC_lt (fun y hy => (all_iB y (hi y hy)).2) w
  have e : (i.all fun y => allC.any fun z => z.toNat == y.toNat) = true := List.all_eq_true.2 fun y hy => (all_iB y (hi y hy)).1
  rw [e] at h
  exact h
theorem idents_len : ∀ s : Bs, (idents s).length ≤ s.length + 1
  | [] => by simp [idents]
  | x :: l => by
    have h := idents_len l
    unfold idents
    split
    · simp; omega
    · split
      · simp
      · rename_i e; rw [e] at h; simp at h ⊢; omega
set_option maxHeartbeats 2000000 in
theorem k91 (s : Bs) (hs : s.length ≤ 1000) (hp : PreOk s) (w : World) : Calls Tryz.prog 65 #[.string (bytesOf s)] w fun e w' => e = .returned .nilIface ∧ Below w.heap.size w w' := by
  obtain ⟨L, hL⟩ : ∃ L, idents s = L := ⟨_, rfl⟩
  have H := Lib.hid (t38 (bytesOf s) ⟨#[46]⟩ _ (parted_dot s.length s (Nat.le_refl _)) (by rw [bytesOf_size]; omega) (by decide) (by decide) w)
  unfold PreOk at hp
  have hne := idents_ne s
  rw [hL] at H hp hne
  have hnz : 0 < (L.map bytesOf).length := by simp; exact List.length_pos_iff.2 hne
  have hlen := idents_len s
  rw [hL] at hlen
  have hln : (L.length : Int) ≤ 1001 := by omega
  have HP := Lib.hid hp
  clear hL hs hp hne hlen
  go_enter Tryz.func65, Tryz.ntmps65
  go_upto_region 3 with (go_at_call 25; refine H.out.mono ?_; rintro e w1 ⟨v, rfl, ho, hb⟩; obtain ⟨ob, oc, hv2, hob⟩ := World.ownsRow.form ho hnz; subst hv2; obtain ⟨ocur, hob2, hoc⟩ := own_cells ho hnz; have HO := Lib.hid (And.intro hob2 (And.intro hoc hb)); clear ho hb hob hob2 hoc)
  simp only [List.length_map] at *
  go_wp2
  go_loopw [10] (fun kv W => ∃ k : Nat, kv = .int .i64 k ∧ k ≤ L.length ∧ Hid (Below w1.heap.size w1 W)) (fun kv _ => 2000000 - (intOf kv).toNat)
  case atStart => exact ⟨0, rfl, Nat.zero_le _, Lib.hid (Below.refl _ _)⟩
  case round =>
    obtain ⟨k, rfl, hk, HW⟩ := hrel
    by_cases c : k < L.length
    · have c1 : (k : Int) < (L.length : Int) := by omega
      obtain ⟨d, hd⟩ : ∃ d, L[k]? = some d := ⟨_, List.getElem?_eq_getElem c⟩
      have q0 : wr.cell? ⟨ob, k, none⟩ = some (.string (bytesOf d)) := by
        have hlt := (Array.getElem?_eq_some_iff.1 HO.out.1).1
        rw [HW.out.cell (p := ⟨ob, k, none⟩) hlt, cell_of_row _ _ _ _ _ _ HO.out.1, HO.out.2.1 k (.string (bytesOf d)) (by simp [hd])]
      have hok := HP.out d (List.mem_of_getElem? hd)
      have e1 : (bytesOf d).toList = d := bytesOf_toList d
      have dne : (d == ([] : Bs)) = false := by
        cases d with
        | nil => exact absurd rfl hok.1.1
        | cons y l => rfl
      have Hn := Lib.hid (fun w => k92num d hok.1.2 w)
      have Ha := Lib.hid (fun w => k92all d hok.1.2 w)
      have HK := Lib.hid hok
      obtain ⟨r, hr⟩ : ∃ r, d.all dB = r := ⟨_, rfl⟩
      rw [hr] at Hn
      have HR := Lib.hid hr
      have hsz := bytesOf_size d
      have hdl : 0 < d.length := List.length_pos_iff.2 hok.1.1
      clear hd hok hr
      cases r
      · go_wp2_with (first
          | (go_at_call 66; refine (Hn.out _).mono ?_; rintro e w2 ⟨rfl, hb⟩; have HB := Lib.hid (HW.out.trans (hb.mono HW.out.size)); clear hb)
          | (go_at_call 66; refine (Ha.out _).mono ?_; rintro e w3 ⟨rfl, hb⟩; have HB2 := Lib.hid (HB.out.trans (hb.mono HB.out.size)); clear hb))
        exact ⟨⟨k + 1, rfl, by omega, HB2⟩, by simp [intOf]; omega⟩
      · by_cases h1 : 1 < d.length
        · have h1' : (1 : Int) < (d.length : Int) := by omega
          have hz : 0 < (bytesOf d).size := by omega
          have z0 : ((((bytesOf d)[0]'hz).toNat : Int) == 48) = false := by
            have h2 := HK.out.2
            have h3 : ∀ y ∈ d, dB y = true := fun y hy => List.all_eq_true.1 HR.out y hy
            have e2 : (bytesOf d)[0]'hz = d[0]'hdl := by simp [bytesOf]; rfl
            rw [e2]
            cases hq : ((((d[0]'hdl).toNat : Nat) : Int) == 48) with
            | false => rfl
            | true =>
              exfalso
              refine h2 ⟨h3, h1, ?_⟩
              rw [List.head?_eq_getElem?, List.getElem?_eq_getElem hdl]
              have : (d[0]'hdl).toNat = 48 := by simp at hq; omega
              exact congrArg some (UInt8.toNat_inj.1 (by rw [this]; rfl))
          go_wp2_with (go_at_call 66; refine (Hn.out _).mono ?_; rintro e w2 ⟨rfl, hb⟩; have HB := Lib.hid (HW.out.trans (hb.mono HW.out.size)); clear hb)
          exact ⟨⟨k + 1, rfl, by omega, HB⟩, by simp [intOf]; omega⟩
        · have h1' : ¬ (1 : Int) < (d.length : Int) := by omega
          go_wp2_with (go_at_call 66; refine (Hn.out _).mono ?_; rintro e w2 ⟨rfl, hb⟩; have HB := Lib.hid (HW.out.trans (hb.mono HW.out.size)); clear hb)
          exact ⟨⟨k + 1, rfl, by omega, HB⟩, by simp [intOf]; omega⟩
    · have c1 : ¬ (k : Int) < (L.length : Int) := by omega
      go_wp2
      go_ret
      exact ⟨rfl, HO.out.2.2.trans (HW.out.mono HO.out.2.2.size)⟩
set_option maxHeartbeats 2000000 in
theorem k90 (s : Bs) (hs : s.length ≤ 1000) (hp : ∀ i ∈ idents s, okPart iB i) (w : World) : Calls Tryz.prog 64 #[.string (bytesOf s)] w fun e w' => e = .returned .nilIface ∧ Below w.heap.size w w' := by
  obtain ⟨L, hL⟩ : ∃ L, idents s = L := ⟨_, rfl⟩
  have H := Lib.hid (t38 (bytesOf s) ⟨#[46]⟩ _ (parted_dot s.length s (Nat.le_refl _)) (by rw [bytesOf_size]; omega) (by decide) (by decide) w)
  have hne := idents_ne s
  rw [hL] at H hp hne
  have hnz : 0 < (L.map bytesOf).length := by simp; exact List.length_pos_iff.2 hne
  have hlen := idents_len s
  rw [hL] at hlen
  have hln : (L.length : Int) ≤ 1001 := by omega
  have HP := Lib.hid hp
  clear hL hs hp hne hlen
  go_enter Tryz.func64, Tryz.ntmps64
  go_upto_region 3 with (go_at_call 25; refine H.out.mono ?_; rintro e w1 ⟨v, rfl, ho, hb⟩; obtain ⟨ob, oc, hv2, hob⟩ := World.ownsRow.form ho hnz; subst hv2; obtain ⟨ocur, hob2, hoc⟩ := own_cells ho hnz; have HO := Lib.hid (And.intro hob2 (And.intro hoc hb)); clear ho hb hob hob2 hoc)
  simp only [List.length_map] at *
  go_wp2
  go_loopw [10] (fun kv W => ∃ k : Nat, kv = .int .i64 k ∧ k ≤ L.length ∧ Hid (Below w1.heap.size w1 W)) (fun kv _ => 2000000 - (intOf kv).toNat)
  case atStart => exact ⟨0, rfl, Nat.zero_le _, Lib.hid (Below.refl _ _)⟩
  case round =>
    obtain ⟨k, rfl, hk, HW⟩ := hrel
    by_cases c : k < L.length
    · have c1 : (k : Int) < (L.length : Int) := by omega
      obtain ⟨d, hd⟩ : ∃ d, L[k]? = some d := ⟨_, List.getElem?_eq_getElem c⟩
      have q0 : wr.cell? ⟨ob, k, none⟩ = some (.string (bytesOf d)) := by
        have hlt := (Array.getElem?_eq_some_iff.1 HO.out.1).1
        rw [HW.out.cell (p := ⟨ob, k, none⟩) hlt, cell_of_row _ _ _ _ _ _ HO.out.1, HO.out.2.1 k (.string (bytesOf d)) (by simp [hd])]
      have hok := HP.out d (List.mem_of_getElem? hd)
      have e1 : (bytesOf d).toList = d := bytesOf_toList d
      have dne : (d == ([] : Bs)) = false := by
        cases d with
        | nil => exact absurd rfl hok.1
        | cons y l => rfl
      have Ha := Lib.hid (fun w => k92all d hok.2 w)
      have hsz := bytesOf_size d
      clear hd hok
      go_wp2_with (go_at_call 66; refine (Ha.out _).mono ?_; rintro e w3 ⟨rfl, hb⟩; have HB := Lib.hid (HW.out.trans (hb.mono HW.out.size)); clear hb)
      exact ⟨⟨k + 1, rfl, by omega, HB⟩, by simp [intOf]; omega⟩
    · have c1 : ¬ (k : Int) < (L.length : Int) := by omega
      go_wp2
      go_ret
      exact ⟨rfl, HO.out.2.2.trans (HW.out.mono HO.out.2.2.size)⟩
end Go.Proofs.YthejepmnnpmdmaaGreatDoor.Sv
end
section
set_option linter.unusedVariables false
set_option linter.unusedSimpArgs false
/- NewVersion of any good version's text -/
namespace Go.Proofs.YthejepmnnpmdmaaGreatDoor.Sv
open Go Go.RowKit Rx
set_option maxRecDepth 100000
set_option maxHeartbeats 4000000 in
theorem tCoerceG (x : Ver) (hx : x.Ok dB iB) (r2 r3 : Bs) (h2 : x.p2 = some r2) (h3 : x.p3 = some r3) (hpre : gpre x.pre = [] ∨ PreOk (gpre x.pre)) (hmeta : gpre x.meta_ = [] ∨ ∀ i ∈ idents (gpre x.meta_), okPart iB i) (a b c : Nat) (ha : Lib.parseUintB 64 x.p1 = .ok a) (hb : Lib.parseUintB 64 r2 = .ok b) (hc : Lib.parseUintB 64 r3 = .ok c)
    (hl : x.text.length ≤ 256) (w : World) (hT : Lib.Utf8Tabs 11 12 w) :
    Calls Tryz.prog 61 #[.string (bytesOf x.text)] w fun e w' => ∃ V, e = .returned (.tuple #[.pointer (some ⟨V, 0, none⟩), .nilIface]) ∧ w.heap.size ≤ V ∧ VerAt w' V a b c (gpre x.pre) (gpre x.meta_) x.text ∧ Below w.heap.size w w' := by
  have hlen : x.p1.length + (r2.length + 1 + (r3.length + 1)) ≤ x.text.length := by
    rw [Ver.text, h2, h3]; simp [ptext]; omega
  have hl5 : (gpre x.pre).length ≤ 1000 := by
    have : (gpre x.pre).length ≤ (gtext 45 x.pre).length := by
      cases x.pre with
      | none => simp [gpre]
      | some y => obtain ⟨y, l⟩ := y; simp [gpre, gtext]
    have : (gtext 45 x.pre).length ≤ x.text.length := by rw [Ver.text]; simp; omega
    omega
  have hl8 : (gpre x.meta_).length ≤ 1000 := by
    have : (gpre x.meta_).length ≤ (gtext 43 x.meta_).length := by
      cases x.meta_ with
      | none => simp [gpre]
      | some y => obtain ⟨y, l⟩ := y; simp [gpre, gtext]
    have : (gtext 43 x.meta_).length ≤ x.text.length := by rw [Ver.text]; simp; omega
    omega
  unfold VerAt
  have H61 := Lib.hid (fun (w : World) (R PB IB icap : Nat) (hp : PG w R PB IB icap looseT) (hr : RH w R PB 4 1 20 1 9) (hT : Lib.Utf8Tabs 11 12 w) => looseM (s := bytesOf x.text) hp hr hT (by rw [bytesOf_size]; omega) hx rfl)
  have HA := Lib.hid (fun w => tParse a x.p1 ha (by omega) w)
  have HB := Lib.hid (fun w => tParse b r2 hb (by omega) w)
  have HC := Lib.hid (fun w => tParse c r3 hc (by omega) w)
  have HT := Lib.hid hT
  have HTa := Lib.hid (fun w => tTrimDot (46 :: r2) (.inr ⟨_, rfl⟩) (by simp; omega) w)
  have HTb := Lib.hid (fun w => tTrimDot (46 :: r3) (.inr ⟨_, rfl⟩) (by simp; omega) w)
  have q := q52
  rw [h2, h3] at H61
  have HPR := Lib.hid (And.intro hpre (And.intro hl5 (And.intro hmeta hl8)))
  clear hx h2 h3 hpre hmeta ha hb hc hT hlen hl hl5 hl8
  generalize bytesOf x.text = s at *
  generalize x.p1 = r1 at *
  generalize gpre x.pre = P5 at *
  generalize gpre x.meta_ = P8 at *
  go_enter Tryz.func61, Tryz.ntmps61
  go_wp2_with (first
    | (go_at_call 75; refine (t107 w).mono ?_; rintro e w1 ⟨R, PB, IB, icap, rfl, hp, hr, hb⟩; have HP := Lib.hid (And.intro hp (And.intro hr (And.intro (Utf8Tabs_below HT.out hb) hb))); clear hp hr hb)
    | (go_at_call 45; refine (H61.out _ _ _ _ _ HP.out.1 HP.out.2.1 HP.out.2.2.1).mono ?_; rintro e w2 ⟨hb2, f, ⟨bp, rfl, h1, h2⟩, e1, e2, e3, e5, e8⟩; have c1 := piece_cell h2 1 (by decide); have c2 := piece_cell h2 2 (by decide); have c3 := piece_cell h2 3 (by decide); have c5 := piece_cell h2 5 (by decide); have c8 := piece_cell h2 8 (by decide); rw [e1] at c1; rw [e2] at c2; rw [e3] at c3; rw [e5] at c5; rw [e8] at c8; have HB2 := Lib.hid (And.intro h1 (And.intro h2 (HP.out.2.2.2.trans (hb2.mono HP.out.2.2.2.size)))); clear hb2 h1 h2 e1 e2 e3 e5 e8))
  go_region
  have hst : VAt w w2.heap.size bp #[.int .u64 0, .int .u64 0, .int .u64 0, .string (bytesOf P5), .string (bytesOf P8), .string s] (strs ((List.range 10).map f)) ((w2.alloc (.cells #[.int .u64 0, .int .u64 0, .int .u64 0, .string (bytesOf P5), .string (bytesOf P8), .string s] 65)).drew) := by
    obtain ⟨k1, k2, k3⟩ := HB2.out
    refine ⟨heap_alloc_new w2 _, (Below.heap_alloc w2 _ bp (Array.getElem?_eq_some_iff.1 k2).1).trans k2, (k3.alloc k3.size _).drew, k3.size⟩
  have e1 : (strs ((List.range 10).map f))[1]? = some (.string (bytesOf r1)) := by rw [← c1, cell_of_row _ _ _ _ _ _ HB2.out.2.1]
  have e2 : (strs ((List.range 10).map f))[2]? = some (.string (bytesOf (ptext (some r2)))) := by rw [← c2, cell_of_row _ _ _ _ _ _ HB2.out.2.1]
  have e3 : (strs ((List.range 10).map f))[3]? = some (.string (bytesOf (ptext (some r3)))) := by rw [← c3, cell_of_row _ _ _ _ _ _ HB2.out.2.1]
  have HE := Lib.hid (And.intro e1 (And.intro e2 e3))
  clear c1 c2 c3 c5 c8 e1 e2 e3
  generalize (w2.alloc (.cells #[.int .u64 0, .int .u64 0, .int .u64 0, .string (bytesOf P5), .string (bytesOf P8), .string s] 65)).drew = W3 at *
  generalize strs ((List.range 10).map f) = ps at *
  generalize w2.heap.size = V at *
  have HS := Lib.hid hst
  have c1 := hst.piece 1 _ HE.out.1
  clear hst
  go_upto_region 9 with (first
    | (go_at_call 67; refine (HA.out _).mono ?_; rintro e w4 ⟨rfl, hb4⟩; have hst4 := HS.out.keep hb4; have HS4 := Lib.hid hst4; have v0 := hst4.cell 0 _ rfl; have fz0 := hst4.fz 0; clear hb4 hst4)
    | go_in)
  have HS := Lib.hid (HS4.out.store 0 (.int .u64 a))
  clear HS4 v0 fz0 c1
  generalize w4.setCell ⟨V, 0, none⟩ (.int .u64 a) = W5 at *
  have c1 := HS.out.piece 2 _ HE.out.2.1
  simp only [ptext] at c1
  have n1 := bytesOf_toList (46 :: r2)
  go_upto_region 14 with (first
    | (go_at_call 47; refine (HTa.out _).mono ?_; rintro e w6 ⟨rfl, hw⟩; subst hw; rw [show (46 :: r2 : Bs).tail = r2 from rfl])
    | (go_at_call 67; refine (HB.out _).mono ?_; rintro e w4 ⟨rfl, hb4⟩; have hst4 := HS.out.keep hb4; have HS4 := Lib.hid hst4; have v0 := hst4.cell 1 _ rfl; have fz0 := hst4.fz 1; clear hb4 hst4)
    | go_in)
  have HS := Lib.hid (HS4.out.store 1 (.int .u64 b))
  clear HS4 v0 fz0 c1 n1
  generalize w4.setCell ⟨V, 1, none⟩ (.int .u64 b) = W6 at *
  have c1 := HS.out.piece 3 _ HE.out.2.2
  simp only [ptext] at c1
  have n1 := bytesOf_toList (46 :: r3)
  go_upto_region 19 with (first
    | (go_at_call 47; refine (HTb.out _).mono ?_; rintro e w6 ⟨rfl, hw⟩; subst hw; rw [show (46 :: r3 : Bs).tail = r3 from rfl])
    | (go_at_call 67; refine (HC.out _).mono ?_; rintro e w4 ⟨rfl, hb4⟩; have hst4 := HS.out.keep hb4; have HS4 := Lib.hid hst4; have v0 := hst4.cell 2 _ rfl; have fz0 := hst4.fz 2; clear hb4 hst4)
    | go_in)
  have HS := Lib.hid (HS4.out.store 2 (.int .u64 c))
  clear HS4 v0 fz0 c1 n1
  generalize w4.setCell ⟨V, 2, none⟩ (.int .u64 c) = W7 at *
  have v3 : W7.cell? ⟨V, 3, none⟩ = some (.string (bytesOf P5)) := HS.out.cell 3 _ rfl
  have v4 : W7.cell? ⟨V, 4, none⟩ = some (.string (bytesOf P8)) := HS.out.cell 4 _ rfl
  have n5 := bytesOf_toList P5
  have n8 := bytesOf_toList P8
  have nE : ∀ {P : Bs}, (∀ i ∈ idents P, okPart iB i) → (P == ([] : Bs)) = false := fun {P} h => by
    cases P with
    | nil => exact absurd rfl (h [] (by simp [idents])).1
    | cons y l => rfl
  obtain ⟨g5, ln5, g8, ln8⟩ := HPR.out
  rcases g5 with rfl | g5 <;> rcases g8 with rfl | g8
  · skip
    go_wp2_with (first
      | go_in)
    go_ret2
    exact ⟨V, rfl, HS.out.h, HS.out.v, HS.out.b⟩
  · have d8 := nE g8
    have HP8 := Lib.hid (fun w => k90 P8 ln8 g8 w)
    clear g8 ln8 ln5 nE HPR
    go_wp2_with (first
      | (go_at_call 64; refine (HP8.out _).mono ?_; rintro e w9 ⟨rfl, hb⟩; have hst := HS.out.keep hb; clear v3 v4 HS; have HS := Lib.hid hst; clear hb hst)
      | go_in)
    go_ret2
    exact ⟨V, rfl, HS.out.h, HS.out.v, HS.out.b⟩
  · have d5 := nE (fun i hi => (g5 i hi).1)
    have HP5 := Lib.hid (fun w => k91 P5 ln5 g5 w)
    clear g5 ln8 ln5 nE HPR
    go_wp2_with (first
      | (go_at_call 65; refine (HP5.out _).mono ?_; rintro e w8 ⟨rfl, hb⟩; have hst := HS.out.keep hb; clear v3 v4 HS; have HS := Lib.hid hst; have v3 : w8.cell? ⟨V, 3, none⟩ = some (.string (bytesOf P5)) := hst.cell 3 _ rfl; have v4 : w8.cell? ⟨V, 4, none⟩ = some (.string (bytesOf [])) := hst.cell 4 _ rfl; clear hb hst)
      | go_in)
    go_ret2
    exact ⟨V, rfl, HS.out.h, HS.out.v, HS.out.b⟩
  · have d5 := nE (fun i hi => (g5 i hi).1)
    have HP5 := Lib.hid (fun w => k91 P5 ln5 g5 w)
    have d8 := nE g8
    have HP8 := Lib.hid (fun w => k90 P8 ln8 g8 w)
    clear g5 g8 ln8 ln5 nE HPR
    go_wp2_with (first
      | (go_at_call 65; refine (HP5.out _).mono ?_; rintro e w8 ⟨rfl, hb⟩; have hst := HS.out.keep hb; clear v3 v4 HS; have HS := Lib.hid hst; have v3 : w8.cell? ⟨V, 3, none⟩ = some (.string (bytesOf P5)) := hst.cell 3 _ rfl; have v4 : w8.cell? ⟨V, 4, none⟩ = some (.string (bytesOf P8)) := hst.cell 4 _ rfl; clear hb hst)
      | (go_at_call 64; refine (HP8.out _).mono ?_; rintro e w9 ⟨rfl, hb⟩; have hst := HS.out.keep hb; clear v3 v4 HS; have HS := Lib.hid hst; clear hb hst)
      | go_in)
    go_ret2
    exact ⟨V, rfl, HS.out.h, HS.out.v, HS.out.b⟩
theorem tNewVerG (x : Ver) (hx : x.Ok dB iB) (r2 r3 : Bs) (h2 : x.p2 = some r2) (h3 : x.p3 = some r3) (hpre : gpre x.pre = [] ∨ PreOk (gpre x.pre)) (hmeta : gpre x.meta_ = [] ∨ ∀ i ∈ idents (gpre x.meta_), okPart iB i) (a b c : Nat) (ha : Lib.parseUintB 64 x.p1 = .ok a) (hb : Lib.parseUintB 64 r2 = .ok b) (hc : Lib.parseUintB 64 r3 = .ok c)
    (hl : x.text.length ≤ 256) : Reads x.text a b c (gpre x.pre) (gpre x.meta_) := fun w hT => by
  have H := Lib.hid (tCoerceG x hx r2 r3 h2 h3 hpre hmeta a b c ha hb hc hl w hT)
  have k1 : ¬ (256 : Int) < ((bytesOf x.text).size : Int) := by rw [bytesOf_size]; omega
  clear hx h2 h3 hpre hmeta ha hb hc hl hT
  unfold VerAt at *
  generalize bytesOf x.text = s at *
  go_enter Tryz.func48, Tryz.ntmps48
  go_wp2_with (go_at_call 61; refine H.out.mono ?_; rintro e w1 ⟨V, rfl, h1, h2, h3⟩; have HV := Lib.hid (And.intro h1 (And.intro h2 h3)); clear h1 h2 h3)
  go_ret2
  exact ⟨V, rfl, HV.out⟩
end Go.Proofs.YthejepmnnpmdmaaGreatDoor.Sv
end
section
set_option linter.unusedVariables false
set_option linter.unusedSimpArgs false
/- versions are compared -/
namespace Go.Proofs.YthejepmnnpmdmaaGreatDoor.Sv
open Go Go.RowKit Rx
set_option maxRecDepth 100000
abbrev ver (a b c : Nat) (p m o : ByteArray) : Value := .agg #[.int .u64 a, .int .u64 b, .int .u64 c, .string p, .string m, .string o]
def seg (x y : Nat) : Int := if x < y then -1 else if y < x then 1 else 0
end Go.Proofs.YthejepmnnpmdmaaGreatDoor.Sv
end
section
set_option linter.unusedVariables false
set_option linter.unusedSimpArgs false
/- Compare -/
namespace Go.Proofs.YthejepmnnpmdmaaGreatDoor.Sv
open Go Go.RowKit Rx
set_option maxRecDepth 100000
def S2 (w : World) (V U a b c : Nat) (p m o : ByteArray) (a2 b2 c2 : Nat) (p2 m2 o2 : ByteArray) (w' : World) : Prop := w'.cell? ⟨V, 0, none⟩ = some (.int .u64 a) ∧ w'.cell? ⟨V, 1, none⟩ = some (.int .u64 b) ∧ w'.cell? ⟨V, 2, none⟩ = some (.int .u64 c) ∧ w'.cell? ⟨V, 3, none⟩ = some (.string p) ∧ w'.cell? ⟨V, 4, none⟩ = some (.string m) ∧ w'.cell? ⟨V, 5, none⟩ = some (.string o) ∧ w'.cell? ⟨U, 0, none⟩ = some (.int .u64 a2) ∧ w'.cell? ⟨U, 1, none⟩ = some (.int .u64 b2) ∧ w'.cell? ⟨U, 2, none⟩ = some (.int .u64 c2) ∧ w'.cell? ⟨U, 3, none⟩ = some (.string p2) ∧ w'.cell? ⟨U, 4, none⟩ = some (.string m2) ∧ w'.cell? ⟨U, 5, none⟩ = some (.string o2) ∧ Below w.heap.size w w'
theorem belk {w w1 w2 : World} (hb : Below w1.heap.size w1 w2) (h : Below w.heap.size w w1) : Below w.heap.size w w2 := h.trans (hb.mono h.size)
/-- a release against a version -/
def cmpRel (a b c a2 b2 c2 : Nat) (rel : Bool) : Int := if seg a a2 ≠ 0 then seg a a2 else if seg b b2 ≠ 0 then seg b b2 else if seg c c2 ≠ 0 then seg c c2 else if rel then 0 else 1
end Go.Proofs.YthejepmnnpmdmaaGreatDoor.Sv
end
section
set_option linter.unusedVariables false
set_option linter.unusedSimpArgs false
/- the operators of a constraint, of a release: no number missing -/
namespace Go.Proofs.YthejepmnnpmdmaaGreatDoor.Sv
open Go Go.RowKit Rx
set_option maxRecDepth 100000
def S3 (w : World) (V U C a b c : Nat) (p m o : ByteArray) (a2 b2 c2 : Nat) (p2 m2 o2 op : ByteArray) (md d pd : Bool) (w' : World) : Prop := w'.cell? ⟨V, 0, none⟩ = some (.int .u64 a) ∧ w'.cell? ⟨V, 1, none⟩ = some (.int .u64 b) ∧ w'.cell? ⟨V, 2, none⟩ = some (.int .u64 c) ∧ w'.cell? ⟨V, 3, none⟩ = some (.string p) ∧ w'.cell? ⟨V, 4, none⟩ = some (.string m) ∧ w'.cell? ⟨V, 5, none⟩ = some (.string o) ∧ w'.cell? ⟨U, 0, none⟩ = some (.int .u64 a2) ∧ w'.cell? ⟨U, 1, none⟩ = some (.int .u64 b2) ∧ w'.cell? ⟨U, 2, none⟩ = some (.int .u64 c2) ∧ w'.cell? ⟨U, 3, none⟩ = some (.string p2) ∧ w'.cell? ⟨U, 4, none⟩ = some (.string m2) ∧ w'.cell? ⟨U, 5, none⟩ = some (.string o2) ∧ w'.cell? ⟨C, 0, none⟩ = some (.pointer (some ⟨U, 0, none⟩)) ∧ w'.cell? ⟨C, 2, none⟩ = some (.string op) ∧ w'.cell? ⟨C, 3, none⟩ = some (.bool md) ∧ w'.cell? ⟨C, 4, none⟩ = some (.bool d) ∧ w'.cell? ⟨C, 5, none⟩ = some (.bool pd) ∧ Below w.heap.size w w'
theorem tErr (s : ByteArray) (w : World) : Calls Tryz.prog 28 #[.string s] w fun e w' => ∃ t a, e = .returned (.iface t (.pointer (some a))) ∧ Below w.heap.size w w' := by
  go_enter Tryz.func28, Tryz.ntmps28
  go_wp2
  go_ret
  exact ⟨_, _, rfl, (Below.refl _ w).alloc (Nat.le_refl _) _⟩
theorem ret_bool {x r : Bool} {ev : Value} {w w' : World} (hx : x = r) (hb : Below w.heap.size w w') : ∃ ev', Ending.returned (.tuple #[.bool x, ev]) = Ending.returned (.tuple #[.bool r, ev']) ∧ Below w.heap.size w w' := ⟨ev, by rw [hx], hb⟩
end Go.Proofs.YthejepmnnpmdmaaGreatDoor.Sv
end
section
set_option linter.unusedVariables false
set_option linter.unusedSimpArgs false
/- a constraint of one term with three numbers -/
namespace Go.Proofs.YthejepmnnpmdmaaGreatDoor.Sv
open Go Go.RowKit Rx
set_option maxRecDepth 100000
/-- a version of three numbers -/
def dv (a b c : Nat) : Ver := ⟨false, Lib.decDigits a, some (Lib.decDigits b), some (Lib.decDigits c), none, none⟩
theorem dB_pB (x : UInt8) (h : dB x = true) : pB x = true := by
  have := byte_all (p := fun x => !dB x || pB x) (by decide) x
  simpa [h] using this
theorem dB_not (x : UInt8) (h : dB x = true) : x ≠ 120 ∧ x ≠ 42 ∧ x ≠ 88 ∧ x ≠ 124 ∧ ws x = false := by
  have := byte_all (p := fun x => !dB x || (x != 120 && x != 42 && x != 88 && x != 124 && !ws x)) (by decide) x
  simpa [h, and_assoc] using this
theorem dec_part (a : Nat) : okPart dB (Lib.decDigits a) := ⟨decDigits_ne a, decDigits_dB a a (Nat.le_refl _)⟩
theorem dv_ok (a b c : Nat) : (dv a b c).Ok dB iB := by
  refine ⟨dec_part a, fun y h => ?_, fun y h => ⟨?_, by simp [dv]⟩, trivial, trivial⟩
  · obtain rfl : Lib.decDigits b = y := by simpa [dv] using h
    exact dec_part b
  · obtain rfl : Lib.decDigits c = y := by simpa [dv] using h
    exact dec_part c
theorem ok_pB {x : Ver} (h : x.Ok dB iB) : x.Ok pB iB :=
  ⟨⟨h.p1.1, fun y hy => dB_pB y (h.p1.2 y hy)⟩, fun y hy => ⟨(h.p2 y hy).1, fun z hz => dB_pB z ((h.p2 y hy).2 z hz)⟩, fun y hy => ⟨⟨(h.p3 y hy).1.1, fun z hz => dB_pB z ((h.p3 y hy).1.2 z hz)⟩, (h.p3 y hy).2⟩, h.pre, h.meta_⟩
theorem dv_text (a b c : Nat) : (dv a b c).text = Lib.decDigits a ++ (46 :: (Lib.decDigits b ++ 46 :: Lib.decDigits c)) := by simp [dv, Ver.text, ptext, gtext]
theorem dv_len (a b c : Nat) (ha : a < 18446744073709551616) (hb : b < 18446744073709551616) (hc : c < 18446744073709551616) : (dv a b c).text.length ≤ 62 := by
  have h1 := nDigits_le a ha
  have h2 := nDigits_le b hb
  have h3 := nDigits_le c hc
  rw [dv_text]
  generalize Lib.decDigits a = x at *
  generalize Lib.decDigits b = y at *
  generalize Lib.decDigits c = z at *
  simp; omega
theorem dec_noX (a : Nat) : isXb (Lib.decDigits a) = false := by
  have h := (dec_part a).2
  generalize Lib.decDigits a = l at *
  have k : ∀ y : UInt8, (y = 120 ∨ y = 42 ∨ y = 88) → ¬ l = [y] := by
    rintro y hy rfl
    have := dB_not y (h y (by simp))
    rcases hy with rfl | rfl | rfl <;> simp at this
  unfold isXb
  simp [k 120 (by simp), k 42 (by simp), k 88 (by simp)]
theorem bytesOf_list (l : Bs) : (bytesOf l).data.toList = l := by simp [bytesOf]
/-- no blank and no bar stands in the text -/
def tame (l : Bs) : Prop := ∀ y ∈ l, ws y = false ∧ y ≠ 124
theorem tame.noWD : ∀ {l : Bs}, tame l → noWD l = true
  | [], _ => rfl
  | [_], _ => rfl
  | x :: y :: l, h => by
    have h1 := (h x (by simp)).1
    have h2 : Rx.noWD (y :: l) = true := tame.noWD fun z hz => h z (by simp [hz])
    simp [Rx.noWD, h1, h2]
theorem tame.app {a b : Bs} (h : tame a) (h' : tame b) : tame (a ++ b) := fun y hy => by
  rcases List.mem_append.1 hy with h1 | h1
  · exact h y h1
  · exact h' y h1
theorem tame_dec (a : Nat) : tame (Lib.decDigits a) := fun y hy => by
  have := dB_not y ((dec_part a).2 y hy)
  exact ⟨this.2.2.2.2, this.2.2.2.1⟩
theorem tame_dv (a b c : Nat) : tame (dv a b c).text := by
  rw [dv_text]
  have h46 : ∀ {l : Bs}, tame l → tame (46 :: l) := fun h y hy => by
    rcases List.mem_cons.1 hy with rfl | h1
    · exact ⟨by decide, by decide⟩
    · exact h y h1
  exact (tame_dec a).app (h46 ((tame_dec b).app (h46 (tame_dec c))))
theorem tame_op {op : Bs} (h : op ∈ opTexts) : tame op := by
  have : opTexts.all (fun o => o.all fun y => !ws y && y != 124) = true := by decide
  have h1 := List.all_eq_true.1 (List.all_eq_true.1 this op h)
  exact fun y hy => by simpa using h1 y hy
theorem first_bars {l : Bs} (h : tame l) : First (bytesOf l) ⟨#[124, 124]⟩ none := by
  intro i hi
  have hs : (⟨#[124, 124]⟩ : ByteArray).size = 2 := rfl
  rw [hs, bytesOf_size] at hi
  rw [hs]
  have hl : i < l.length := by omega
  have e : ((bytesOf l).extract i (i + 2)).toList = (l.drop i).take 2 := by
    rw [extract_eq (A := l.take i) (B := (l.drop i).take 2) (C := (l.drop i).drop 2) (by rw [bytesOf_list, List.take_append_drop, List.take_append_drop]) (by simp; omega) (by simp; omega)]
    exact ByteArray.toList_mk _
  have hne := (h l[i] (List.getElem_mem hl)).2
  have e2 : (⟨#[124, 124]⟩ : ByteArray).toList = [124, 124] := ByteArray.toList_mk [124, 124]
  rw [e, e2, List.drop_eq_getElem_cons hl, List.take_succ_cons]
  rw [beq_eq_false_iff_ne]
  intro hh
  injection hh with h1 h2
  exact hne h1
theorem parted_tame {l : Bs} (h : tame l) : Parted ⟨#[124, 124]⟩ (bytesOf l) [bytesOf l] := .last _ (first_bars h)
/-- the term of an operator and three numbers -/
def dtm (op : Bs) (a b c : Nat) : Tm := ⟨op, [], dv a b c⟩
def dtd (op : Bs) (a b c : Nat) : TD := ⟨op, (dv a b c).text, false, false, false, a, b, c, [], [], (dv a b c).text⟩
theorem dtm_ok {op : Bs} (h : op ∈ opTexts) (a b c : Nat) : (dtm op a b c).Ok := ⟨h, fun y hy => by simp [dtm] at hy, ok_pB (dv_ok a b c)⟩
theorem dtm_text (op : Bs) (a b c : Nat) : (dtm op a b c).text = op ++ (dv a b c).text := by simp [dtm, Tm.text]
theorem reads_dv (a b c : Nat) (ha : a < 18446744073709551616) (hb : b < 18446744073709551616) (hc : c < 18446744073709551616) : Reads (dv a b c).text a b c [] [] := fun w hT => by
  have hl := dv_len a b c ha hb hc
  exact tNewVer3 (dv a b c) (dv_ok a b c) _ _ rfl rfl rfl rfl a b c (parse_dec64 a ha) (parse_dec64 b hb) (parse_dec64 c hc) (by omega) w hT
theorem op_len {op : Bs} (h : op ∈ opTexts) : op.length ≤ 2 := by
  have : opTexts.all (fun o => decide (o.length ≤ 2)) = true := by decide
  simpa using List.all_eq_true.1 this op h
theorem gspec {op : Bs} (h : op ∈ opTexts) (a b c : Nat) (ha : a < 18446744073709551616) (hb : b < 18446744073709551616) (hc : c < 18446744073709551616) : GSpec (bytesOf (dtm op a b c).text) [(dtm op a b c).text] [dtd op a b c] := by
  have hl := dv_len a b c ha hb hc
  have ho := op_len h
  have hs : (bytesOf (dtm op a b c).text).size ≤ 1000 := by rw [bytesOf_size, dtm_text]; simp; omega
  have hok := dtm_ok h a b c
  have h0 : (dtm op a b c).op = [] → (dtm op a b c).blank = [] := fun _ => rfl
  refine ⟨fun w R PB IB icap hp hr hT => ?_, fun w R PB IB icap hp hr hT => ?_, rfl, by simp, by simp, fun i x t hx ht w hT => ?_⟩
  · exact validM hp hr hT hs (B := []) (l := []) (by simp) hok (fun x hx => by cases hx) (by rw [bytesOf_list]; simp [ltext, ltail])
  · exact findM hp hr hT hs (x := dtm op a b c) (l := []) hok (fun x hx => by cases hx) (by rw [bytesOf_list]; simp [ltext, ltail])
  · cases i with
    | succ i => simp at hx
    | zero =>
      obtain rfl : (dtm op a b c).text = x := by simpa using hx
      obtain rfl : dtd op a b c = t := by simpa using ht
      refine (t44full (dtm op a b c) (L := []) (RR := []) hs hok (by rw [bytesOf_list]; simp) (by simp) (by simp) h0 _ _ rfl rfl (dec_noX a) (dec_noX b) (dec_noX c) a b c [] [] (reads_dv a b c ha hb hc) w hT).mono ?_
      rintro e w' ⟨C, V, rfl, h1, h2, h3, h4, h5⟩
      exact ⟨C, rfl, h1, ⟨V, h3, h4⟩, h5⟩
/-- NewConstraint of an operator and three numbers -/
theorem t31one {op : Bs} (h : op ∈ opTexts) (a b c : Nat) (ha : a < 18446744073709551616) (hb : b < 18446744073709551616) (hc : c < 18446744073709551616) (w : World) (hT : Lib.Utf8Tabs 11 12 w) :
    Calls Tryz.prog 15 #[.string (bytesOf (op ++ (dv a b c).text))] w fun e w' => ∃ O, e = .returned (.tuple #[ptr O, .nilIface]) ∧ w.heap.size ≤ O ∧ ConsAt w' O [[dtd op a b c]] false ∧ Below w.heap.size w w' := by
  have hl := dv_len a b c ha hb hc
  have ho := op_len h
  have ht : tame (op ++ (dv a b c).text) := (tame_op h).app (tame_dv a b c)
  have hg := gspec h a b c ha hb hc
  rw [dtm_text] at hg
  refine t31 (bytesOf (op ++ (dv a b c).text)) (by rw [bytesOf_size]; simp; omega) (by rw [bytesOf_list]; exact ht.noWD) [bytesOf (op ++ (dv a b c).text)] (parted_tame ht) (by simp) [[op ++ (dv a b c).text]] [[dtd op a b c]] rfl rfl (fun k v tx ts h1 h2 h3 => ?_) w hT
  cases k with
  | succ k => simp at h1
  | zero =>
    obtain rfl : bytesOf (op ++ (dv a b c).text) = v := by simpa using h1
    obtain rfl : [op ++ (dv a b c).text] = tx := by simpa using h2
    obtain rfl : [dtd op a b c] = ts := by simpa using h3
    exact hg
end Go.Proofs.YthejepmnnpmdmaaGreatDoor.Sv
end
section
set_option linter.unusedVariables false
set_option linter.unusedSimpArgs false
/- a region that draws its order, by what holds behind each operation whatever the order -/
namespace Go.Proofs.YthejepmnnpmdmaaGreatDoor.Sv
open Go Go.RowKit Rx
section
variable {P : Program} {ops : Array Oper} {Q : Exit → Act → World → Prop}
/-- how many are not yet listed -/
def unlisted (ops : Array Oper) (listed : Array Bool) : Nat := ((List.range ops.size).filter fun i => !listed.getD i true).length
/-- each operation waits for earlier ones alone -/
def backB (md : Region.Mode) (ops : Array Oper) : Bool := (List.range ops.size).all fun i => match ops[i]? with
  | some o => o.after.toList.all fun e => !Region.binds md e || decide (e.on < i)
  | none => true
theorem all_of_ready {md : Region.Mode} (hb : backB md ops = true) {listed : Array Bool} (hs : listed.size = ops.size) (hr : Region.ready md ops listed = []) : ∀ n, ∀ i, i < n → i < ops.size → listed.getD i false = true
  | 0, i, h, _ => by omega
  | n + 1, i, h, hi => by
    rcases Nat.lt_or_ge i n with h1 | h1
    · exact all_of_ready hb hs hr n i h1 hi
    · have e : i = n := by omega
      subst e
      have ih := all_of_ready hb hs hr i
      cases hl : listed.getD i false with
      | true => rfl
      | false =>
        exfalso
        have hmem : i ∈ Region.ready md ops listed := by
          refine mem_ready.2 ⟨?_, ops[i], by simp [hi], fun e he hbd => ?_⟩
          · have : i < listed.size := by omega
            simp [this] at hl ⊢; exact hl
          · have h2 := List.all_eq_true.1 hb i (by simpa using hi)
            rw [show ops[i]? = some ops[i] by simp [hi]] at h2
            have h3 := List.all_eq_true.1 h2 e (by simpa using he)
            have h4 : e.on < i := by simpa [hbd] using h3
            exact ih e.on h4 (by omega)
        rw [hr] at hmem
        cases hmem
theorem filter_one {f g : Nat → Bool} {i : Nat} (hf : f i = true) (hg : g i = false) (h : ∀ j, j ≠ i → g j = f j) : ∀ l : List Nat, (l.filter g).length ≤ (l.filter f).length ∧ (i ∈ l → (l.filter g).length < (l.filter f).length)
  | [] => by simp
  | x :: l => by
    obtain ⟨p, q⟩ := filter_one hf hg h l
    by_cases hx : x = i
    · subst hx
      simp only [List.filter_cons, hf, hg]
      simp
      omega
    · have e := h x hx
      cases hv : f x
      · simp only [List.filter_cons, e, hv]
        simp [Ne.symm hx]
        exact ⟨p, q⟩
      · simp only [List.filter_cons, e, hv]
        simp [Ne.symm hx]
        exact ⟨p, q⟩
theorem wpAny_inv {md : Region.Mode} (Inv : (Nat → Prop) → Act → World → Prop) (hb : backB md ops = true)
    (hstep : ∀ (i : Nat) (o : Oper), ops[i]? = some o → ∀ (L : Nat → Prop) (a : Act) (w : World), ¬ L i → (∀ e ∈ o.after, Region.binds md e = true → L e.on) → Inv L a w →
      ∀ K : Act → World → Prop, Shut (∀ a' w', Inv (fun j => j = i ∨ L j) a' w' → K a' w') → if Region.wanted o (yielded ops a.tmps) = true then Oper.wp P o a w K Q else K (a.put o.dst undef) w)
    (hend : ∀ (L : Nat → Prop) (a : Act) (w : World), (∀ i, i < ops.size → L i) → Inv L a w → Q .normal a w) :
    ∀ (fuel : Nat) (listed : Array Bool) (a : Act) (w : World), listed.size = ops.size → unlisted ops listed ≤ fuel → Inv (fun j => listed.getD j false = true) a w → wpAny P md ops Q fuel listed a w := by
  have hQ : ∀ (listed : Array Bool) (a : Act) (w : World), listed.size = ops.size → Region.ready md ops listed = [] → Inv (fun j => listed.getD j false = true) a w → Q .normal a w := fun listed a w hs hr hI =>
    hend _ a w (fun i hi => all_of_ready hb hs hr (i + 1) i (by omega) hi) hI
  intro fuel
  induction fuel with
  | zero =>
    intro listed a w hs hf hI
    have hr : Region.ready md ops listed = [] := by
      rcases hcs : Region.ready md ops listed with _ | ⟨x, l⟩
      · rfl
      · exfalso
        have hx : x ∈ Region.ready md ops listed := by rw [hcs]; simp
        obtain ⟨h1, o, h2, _⟩ := mem_ready.1 hx
        have hlt : x < ops.size := (Array.getElem?_eq_some_iff.1 h2).1
        have : x ∈ (List.range ops.size).filter fun i => !listed.getD i true := by
          rw [List.mem_filter]; exact ⟨by simpa using hlt, by rw [h1]; rfl⟩
        unfold unlisted at hf
        have := List.length_pos_of_mem this
        omega
    exact ⟨hr, hQ listed a w hs hr hI⟩
  | succ fuel ih =>
    intro listed a w hs hf hI
    refine ⟨fun hr => hQ listed a w hs hr hI, fun i hi => ?_⟩
    obtain ⟨h1, o, h2, h3⟩ := mem_ready.1 hi
    have hlt : i < ops.size := (Array.getElem?_eq_some_iff.1 h2).1
    have hli : i < listed.size := by omega
    have h1' : ¬ listed.getD i false = true := by simp [hli] at h1 ⊢; exact h1
    refine wpOp_step h2 fun K hK => hstep i o h2 _ a w h1' h3 hI K fun a' w' hI' => hK a' w' (ih _ a' w' (by simpa using hs) ?_ ?_)
    · unfold unlisted at hf ⊢
      have := (filter_one (f := fun j => !listed.getD j true) (g := fun j => !(listed.setIfInBounds i true).getD j true) (i := i) (by simp [h1]) (by simp [hli]) (fun j hj => by simp only [getD_set_ne true (Ne.symm hj)]) (List.range ops.size)).2 (by simpa using hlt)
      omega
    · have e : (fun j => (listed.setIfInBounds i true).getD j false = true) = (fun j => j = i ∨ listed.getD j false = true) := by
        funext j
        by_cases hj : i = j
        · subst hj; simp [hli]
        · rw [getD_set_ne false hj]; simp [Ne.symm hj]
      rw [e]; exact hI'
theorem wp_region_inv {id : Nat} {a : Act} {w : World} (hm : P.follows .mixedOrders = true) (Inv : (Nat → Prop) → Act → World → Prop) (hb : backB .any ops = true) (h0 : Inv (fun _ => False) a w.drew)
    (hstep : ∀ (i : Nat) (o : Oper), ops[i]? = some o → ∀ (L : Nat → Prop) (a : Act) (w : World), ¬ L i → (∀ e ∈ o.after, Region.binds .any e = true → L e.on) → Inv L a w →
      ∀ K : Act → World → Prop, Shut (∀ a' w', Inv (fun j => j = i ∨ L j) a' w' → K a' w') → if Region.wanted o (yielded ops a.tmps) = true then Oper.wp P o a w K Q else K (a.put o.dst undef) w)
    (hend : ∀ (L : Nat → Prop) (a : Act) (w : World), (∀ i, i < ops.size → L i) → Inv L a w → Q .normal a w) : (Code.region id ops true).wp P Q a w := by
  refine wp_region_any hm (wpAny_inv Inv hb hstep hend ops.size (Array.replicate ops.size false) a _ (by simp) ?_ ?_)
  · unfold unlisted
    have := List.length_filter_le (fun i => !(Array.replicate ops.size false).getD i true) (List.range ops.size)
    simpa using this
  · have e : (fun j => (Array.replicate ops.size false).getD j false = true) = fun _ => False := by
      funext j
      rcases Nat.lt_or_ge j ops.size with h | h <;> simp [h]
    rw [e]; exact h0
end
/-! the last operation waits for all: what holds behind each of the others is enough -/
section
variable {P : Program} {ops : Array Oper} {Q : Exit → Act → World → Prop} {md : Region.Mode} {S : World → Prop} {g : Nat}
/-- whatever order is picked, and S holds behind each operation but the last, number g -/
def wpAnyG (P : Program) (md : Region.Mode) (ops : Array Oper) (Q : Exit → Act → World → Prop) (S : World → Prop) (g : Nat) : Nat → Array Bool → Act → World → Prop
  | 0, listed, a, w => Region.ready md ops listed = [] ∧ Q .normal a w
  | fuel + 1, listed, a, w =>
    (Region.ready md ops listed = [] → Q .normal a w) ∧
    ∀ i ∈ Region.ready md ops listed, wpOp P ops Q i (fun a' w' => (i = g ∨ S w') ∧ wpAnyG P md ops Q S g fuel (listed.setIfInBounds i true) a' w') a w
theorem wpAny_of_gate : ∀ (fuel : Nat) (listed : Array Bool) (a : Act) (w : World), wpAnyG P md ops Q S g fuel listed a w → wpAny P md ops Q fuel listed a w
  | 0, _, _, _, h => h
  | fuel + 1, _, _, _, h => ⟨h.1, fun i hi => wpOp_mono (fun a' w' h' => wpAny_of_gate fuel _ a' w' h'.2) (h.2 i hi)⟩
theorem wpAnyG_first {i : Nat} {oi og : Oper} {v : Value} (hi : ops[i]? = some oi) (hg : ops[g]? = some og) (hgi : ∃ e ∈ og.after, Region.binds md e = true ∧ e.on = i) (hsel : ∀ (j : Nat) (o : Oper) cs b, ops[j]? = some o → o.op ≠ .select cs b)
    (hQ : ∀ c a w, Q (.panic c) (a.put oi.dst v) w → Q (.panic c) a w) :
    ∀ (fuel : Nat) (listed : Array Bool) (a : Act) (w : World),
      (∀ j oj, ops[j]? = some oj → j ≠ i → listed.getD j true = false → (∀ e ∈ oj.after, Region.binds md e = true → e.on ≠ i) → oi.apart ops oj = true) →
      i ∈ Region.ready md ops listed → YieldsIf P ops S oi v a → S w →
      wpAnyG P md ops Q S g fuel (listed.setIfInBounds i true) (a.put oi.dst v) w → wpAnyG P md ops Q S g (fuel + 1) listed a w := by
  intro fuel
  induction fuel with
  | zero =>
    intro listed a w _ hr hy hS H
    refine ⟨fun h => (by rw [h] at hr; cases hr), fun j hj => ?_⟩
    by_cases hji : j = i
    · subst hji; exact hy.wpOp hi hS ⟨.inr hS, H⟩
    · have := ready_mono hj hji
      rw [H.1] at this
      cases this
  | succ fuel ih =>
    intro listed a w hfree hr hy hS H
    refine ⟨fun h => (by rw [h] at hr; cases hr), fun j hj => ?_⟩
    by_cases hji : j = i
    · subst hji; exact hy.wpOp hi hS ⟨.inr hS, H⟩
    · have h1 := H.2 j (ready_mono hj hji)
      obtain ⟨hjun, oj, hoj, hall⟩ := mem_ready.1 hj
      have hnot : ∀ e ∈ oj.after, Region.binds md e = true → e.on ≠ i := fun e he hb heq => by
        have h1 := hall e he hb
        have h0 := (mem_ready.1 hr).1
        rw [heq] at h1
        rcases Nat.lt_or_ge i listed.size with h' | h'
        · simp [h'] at h0 h1; rw [h0] at h1; cases h1
        · simp [Array.getElem?_eq_none h'] at h1
      have hjg : j ≠ g := by
        rintro rfl
        obtain ⟨e, he, hb, hei⟩ := hgi
        rw [hg] at hoj
        injection hoj with hoj
        subst hoj
        exact hnot e he hb hei
      have h2 := wpOp_putIf hoj (hfree j oj hoj hji hjun hnot) (fun cs b => hsel i oi cs b hi) (fun cs b => hsel j oj cs b hoj) hQ hy h1
      have hfree' : ∀ k ok, ops[k]? = some ok → k ≠ i → (listed.setIfInBounds j true).getD k true = false →
          (∀ e ∈ ok.after, Region.binds md e = true → e.on ≠ i) → oi.apart ops ok = true := fun k ok hk hki hun hno => by
        refine hfree k ok hk hki ?_ hno
        by_cases hjk : j = k
        · subst hjk; exact hjun
        · rw [getD_set_ne true hjk] at hun; exact hun
      refine wpOp_mono (fun a' w' h3 => ?_) h2
      have hS' : S w' := h3.2.1.resolve_left hjg
      refine ⟨.inr hS', ih (listed.setIfInBounds j true) a' w' hfree' (ready_mono hr (Ne.symm hji)) h3.1 hS' ?_⟩
      rw [Array.setIfInBounds_comm _ _ hji]
      exact h3.2.2
/-- g waits for i -/
def waits (md : Region.Mode) (ops : Array Oper) (g i : Nat) : Bool := match ops[g]? with
  | some og => og.after.toList.any fun e => Region.binds md e && e.on == i
  | none => false
theorem wpAnyG_take {i : Nat} {oi : Oper} {v : Value} {fuel : Nat} {listed : Array Bool} {a : Act} {w : World} (hi : ops[i]? = some oi)
    (hs : Region.noSelect ops = true) (hf : Region.free md ops listed i = true) (hr : (Region.ready md ops listed).contains i = true) (hg : waits md ops g i = true)
    (hQ : ∀ c a w, Q (.panic c) (a.put oi.dst v) w → Q (.panic c) a w) (hy : YieldsIf P ops S oi v a) (hS : S w)
    (h : wpAnyG P md ops Q S g fuel (listed.setIfInBounds i true) (a.put oi.dst v) w) : wpAnyG P md ops Q S g (fuel + 1) listed a w := by
  unfold waits at hg
  cases hog : ops[g]? with
  | none => rw [hog] at hg; simp at hg
  | some og =>
    rw [hog] at hg
    simp only [List.any_eq_true, Bool.and_eq_true, beq_iff_eq] at hg
    obtain ⟨e, he, hb, hei⟩ := hg
    exact wpAnyG_first hi hog ⟨e, by simpa using he, hb, hei⟩ (Region.noSelect_spec hs) hQ fuel listed a w (Region.free_spec hi hf) (by simpa using hr) hy hS h
/-- the one that comes up is carried out -/
theorem wpAnyG_one {i : Nat} {o : Oper} {fuel : Nat} {listed : Array Bool} {a : Act} {w : World} (hr : Region.ready md ops listed = [i]) (ho : ops[i]? = some o)
    (h : ∀ K' : Act → World → Prop, Shut (∀ a w, (i = g ∨ S w) → wpAnyG P md ops Q S g fuel (listed.setIfInBounds i true) a w → K' a w) → if Region.wanted o (yielded ops a.tmps) = true then Oper.wp P o a w K' Q else K' (a.put o.dst undef) w) :
    wpAnyG P md ops Q S g (fuel + 1) listed a w := by
  refine ⟨fun h0 => by rw [hr] at h0; simp at h0, fun j hj => ?_⟩
  rw [hr] at hj
  obtain rfl : j = i := by simpa using hj
  exact wpOp_step ho (fun K' hK => h K' (fun a w hS hW => hK a w ⟨hS, hW⟩))
theorem wpAnyG_done {listed : Array Bool} {a : Act} {w : World} (hr : Region.ready md ops listed = []) (h : Q .normal a w) : ∀ fuel, wpAnyG P md ops Q S g fuel listed a w
  | 0 => ⟨hr, h⟩
  | _ + 1 => ⟨fun _ => h, by rw [hr]; simp⟩
theorem wp_region_gate (g : Nat) (S : World → Prop) {id : Nat} {a : Act} {w : World} (hm : P.follows .mixedOrders = true)
    (h : wpAnyG P .any ops Q S g ops.size (Array.replicate ops.size false) a w.drew) : (Code.region id ops true).wp P Q a w :=
  wp_region_any hm (wpAny_of_gate _ _ _ _ h)
end
end Go.Proofs.YthejepmnnpmdmaaGreatDoor.Sv
end
section
set_option linter.unusedVariables false
set_option linter.unusedSimpArgs false
/- a version's text, the next versions -/
namespace Go.Proofs.YthejepmnnpmdmaaGreatDoor.Sv
open Go Go.RowKit Rx
set_option maxRecDepth 100000
/-- the table of powers of ten -/
def Pow (w : World) : Prop := Lib.TabIs Tryz.prog w "internal/strconv.uint64pow10" .u64 Lib.pow10Tab
theorem tab_below {P : Program} {w w' : World} {name : String} {k : IntKind} {zs : List Int} (h : Lib.TabIs P w name k zs) (hb : Below w.heap.size w w') : Lib.TabIs P w' name k zs := by
  unfold Lib.TabIs World.var? at *
  cases hg : P.globalNamed name with
  | none => simp [hg] at h
  | some g =>
    simp only [hg, Option.bind_some] at h ⊢
    have hlt : g < w.heap.size := by
      rcases Nat.lt_or_ge g w.heap.size with h' | h'
      · exact h'
      · rw [Array.getElem?_eq_none h'] at h; simp at h
    rw [hb.block g hlt]
    exact h
theorem Pow.below {w w' : World} (h : Pow w) (hb : Below w.heap.size w w') : Pow w' := tab_below h hb
theorem Pow.drew {w : World} (h : Pow w) : Pow w.drew := h.below (Below.refl _ _).drew
theorem bytes_app (x y : Bs) : bytesOf x ++ bytesOf y = bytesOf (x ++ y) := by
  apply ByteArray.ext
  simp [bytesOf]
theorem dot_bytes : (⟨#[46]⟩ : ByteArray) = bytesOf [46] := rfl
theorem dot_size : (⟨#[46]⟩ : ByteArray).size = 1 := rfl
theorem add_yields {P : Program} {S : World → Prop} {x y : ByteArray} {t u : TypeId} (h : x.size + y.size < 1000000) : ∀ w, S w → (binOp .add t (.string x) (.string y)).run P w = .ok (.string (x ++ y)) w := by
  intro w _
  go_simp
  omega
def SS (w : World) (T a b c : Nat) (o : ByteArray) (w' : World) : Prop := w'.cell? ⟨T, 0, none⟩ = some (.int .u64 a) ∧ w'.cell? ⟨T, 1, none⟩ = some (.int .u64 b) ∧ w'.cell? ⟨T, 2, none⟩ = some (.int .u64 c) ∧ w'.cell? ⟨T, 3, none⟩ = some (.string e0) ∧ w'.cell? ⟨T, 4, none⟩ = some (.string e0) ∧ w'.cell? ⟨T, 5, none⟩ = some (.string o) ∧ Pow w' ∧ Below w.heap.size w w'
end Go.Proofs.YthejepmnnpmdmaaGreatDoor.Sv
end
