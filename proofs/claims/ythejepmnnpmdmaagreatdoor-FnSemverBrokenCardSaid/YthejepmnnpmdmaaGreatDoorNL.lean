/- FnSemverBroken: for every list of lists of terms, every style and every byte the law's function returns true and leaves its arguments as they were. No condition is added: the statement is the given one, the tied card. -/
import Derived.Test.YthejepmnnpmdmaaGreatDoorChecked
import Derived.RowKitTokens
import Derived.Stop.LaidErr
import Derived.Lib.LaidU8
import Derived.Test.YthejepmnnpmdmaaGreatDoorNI
import Derived.WalkKit
import Derived.ProofKit
import Derived.OpenShut
import Derived.ChangeOld
import Derived.SizedLaws
import Derived.Lib.SmallJoins
import Derived.Deep.Grids
import Derived.Stop.Joined
import Derived.Test.YthejepmnnpmdmaaGreatDoorRows
import Derived.Test.YthejepmnnpmdmaaGreatDoorCards
import Derived.Test.YthejepmnnpmdmaaGreatDoorTie
import Derived.Test.YthejepmnnpmdmaaGreatDoorNK
import Derived.ShutString
import Derived.Below
import Derived.ChangeMaps5
import Derived.LaidMore
import Derived.Lay
import Derived.SevenTiedAt
section
set_option linter.unusedVariables false
set_option linter.unusedSimpArgs false
/- the sentinels that a row lists: each its own pointer; impl.versionKind -/
namespace Go.Proofs.YthejepmnnpmdmaaGreatDoor.Sv
open Go Go.RowKit
set_option maxRecDepth 100000
def sent (nm : String) (t : List UInt8) : DataW Unit := .iface nm (.ptr (.agg [.lit (.string t)]))
structure SentTy (P : Program) (nm : String) (ti tp te ts : TypeId) (ms : Array (String × TypeId)) (f : Field) : Prop where
  hi : P.underlying ti = some (.interface ms)
  hrow : ∀ u, P.typeName? 3 u = some nm → u = tp
  hp : P.underlying tp = some (.pointer te)
  he : P.underlying te = some (.struct #[f])
  hft : f.type = ts
  hfo : f.offset = 0
  hs : P.underlying ts = some .string
  hc : P.cellsOf te = 1
  hcs : P.cellsOf ts = 1
section
variable {P : Program} {nm : String} {ti tp te ts : TypeId} {ms : Array (String × TypeId)} {f : Field} {w : World}
theorem laid_at (S : SentTy P nm ti tp te ts ms f) : ∀ {l : List (String × DataW Unit)} {ps : List MemPlace}, DataW.LaidVars P w l ps →
    (∀ b off, MemPlace.cell b off ∈ ps → (∃ c t, w.heap[b]? = some (.cells c t (0, 0))) ∧ ∀ u v, w.cell? ⟨b, off, none⟩ = some (.iface u v) → Value.okWide P w .any 0 u v) →
    ∀ {i : Nat} {n : String} {t : List UInt8} {g : Nat}, l[i]? = some (n, sent nm t) → P.globalNamed n = some g → (P.globals[g]?).map (·.type) = some ti →
    ∃ a : Addr, w.cell? ⟨g, 0, none⟩ = some (.iface tp (.pointer (some a))) ∧ MemPlace.cell a.block a.off ∈ ps
  | [], _, _, _, _, _, _, _, h, _, _ => by cases h
  | (n', d') :: r, ps, h, hr, i, n, t, g, hi, hg, ht => by
    obtain ⟨g', t', cs, fuel, p, q, h1, h2, h3, h4, h5, rfl⟩ := h
    cases i with
    | zero =>
      obtain ⟨rfl, rfl⟩ : n' = n ∧ d' = sent nm t := by simpa using hi
      obtain rfl := Option.some.inj (hg.symm.trans h1)
      obtain rfl := Option.some.inj (ht.symm.trans h2)
      obtain ⟨l0⟩ := cs
      have ok0 : ∀ u v, l0 = [.iface u v] → Value.okWide P w .any 0 u v := fun u v e => by
        subst e
        exact (hr g 0 (by simp [MemPlace.row])).2 u v (by simpa using World.var?_cell hg h3 0)
      obtain ⟨a, s, rfl, ha, -, -, rfl⟩ := errorString_of_trod S.hi S.hrow S.hp S.he S.hft S.hfo S.hs S.hc S.hcs h4 ok0
      exact ⟨a, by simpa using World.var?_cell hg h3 0, by simp [MemPlace.row]⟩
    | succ i =>
      obtain ⟨a, e1, e2⟩ := laid_at S h5 (fun b off hb => hr b off (by simp [hb])) (by simpa using hi) hg ht
      exact ⟨a, e1, by simp [e2]⟩
theorem laid_lt (S : SentTy P nm ti tp te ts ms f) : ∀ {l : List (String × DataW Unit)} {ps : List MemPlace}, DataW.LaidVars P w l ps → ps.Nodup →
    (∀ b off, MemPlace.cell b off ∈ ps → (∃ c t, w.heap[b]? = some (.cells c t (0, 0))) ∧ ∀ u v, w.cell? ⟨b, off, none⟩ = some (.iface u v) → Value.okWide P w .any 0 u v) →
    ∀ {i j : Nat} {n m : String} {t s : List UInt8} {g k : Nat} {a b : Addr}, l[i]? = some (n, sent nm t) → P.globalNamed n = some g → (P.globals[g]?).map (·.type) = some ti →
    l[j]? = some (m, sent nm s) → P.globalNamed m = some k → (P.globals[k]?).map (·.type) = some ti → i < j → w.cell? ⟨g, 0, none⟩ = some (.iface tp (.pointer (some a))) → w.cell? ⟨k, 0, none⟩ = some (.iface tp (.pointer (some b))) → a ≠ b
  | [], _, _, _, _, _, _, _, _, _, _, _, _, _, _, h, _, _, _, _, _, _, _, _ => by cases h
  | (n', d') :: r, ps, h, hnd, hr, i, j, n, m, t, s, g, k, a, b, hi, hg, ht, hj, hk, htk, hij, ha, hb => by
    obtain ⟨g', t', cs, fuel, p, q, h1, h2, h3, h4, h5, rfl⟩ := h
    obtain ⟨j, rfl⟩ : ∃ j', j = j' + 1 := ⟨j - 1, by omega⟩
    cases i with
    | zero =>
      obtain ⟨rfl, rfl⟩ : n' = n ∧ d' = sent nm t := by simpa using hi
      obtain rfl := Option.some.inj (hg.symm.trans h1)
      obtain rfl := Option.some.inj (ht.symm.trans h2)
      obtain ⟨l0⟩ := cs
      have ok0 : ∀ u v, l0 = [.iface u v] → Value.okWide P w .any 0 u v := fun u v e => by
        subst e
        exact (hr g 0 (by simp [MemPlace.row])).2 u v (by simpa using World.var?_cell hg h3 0)
      obtain ⟨a', s', rfl, -, -, -, rfl⟩ := errorString_of_trod S.hi S.hrow S.hp S.he S.hft S.hfo S.hs S.hc S.hcs h4 ok0
      have e1 : w.cell? ⟨g, 0, none⟩ = some (.iface tp (.pointer (some a'))) := by simpa using World.var?_cell hg h3 0
      obtain rfl : a = a' := by rw [ha] at e1; simpa using e1
      obtain ⟨b', e2, e3⟩ := laid_at S h5 (fun b off hb => hr b off (by simp [hb])) (by simpa using hj) hk htk
      obtain rfl : b = b' := by rw [hb] at e2; simpa using e2
      rintro rfl
      have hd := (List.nodup_append.1 hnd).2.2 (.cell a.block a.off) (by simp [MemPlace.row]) _ e3
      exact hd rfl
    | succ i =>
      exact laid_lt S h5 (List.nodup_append.1 hnd).2.1 (fun b off hb => hr b off (by simp [hb])) (by simpa using hi) hg ht (by simpa using hj) hk htk (by omega) ha hb
end
/-- the sentinels of the variables 0 .. m - 1 -/
structure Sents (tp : TypeId) (A : Nat → Addr) (m : Nat) (w : World) : Prop where
  cell : ∀ i, i < m → w.cell? ⟨i, 0, none⟩ = some (.iface tp (.pointer (some (A i))))
  row : ∀ i, i < m → ∃ c t, w.heap[(A i).block]? = some (.cells c t (0, 0))
  ne : ∀ i j, i < m → j < m → i ≠ j → A i ≠ A j
theorem Sents.lt {tp : TypeId} {A : Nat → Addr} {m : Nat} {w : World} (h : Sents tp A m w) {i : Nat} (hi : i < m) : (A i).block < w.heap.size := by
  obtain ⟨c, t, h1⟩ := h.row i hi
  exact (Array.getElem?_eq_some_iff.1 h1).1
theorem Sents.keep {tp : TypeId} {A : Nat → Addr} {m : Nat} {w w' : World} (h : Sents tp A m w) (hb : Below w.heap.size w w') : Sents tp A m w' := by
  refine ⟨fun i hi => ?_, fun i hi => ?_, h.ne⟩
  · have h1 := h.cell i hi
    have h2 : i < w.heap.size := by
      by_cases h3 : i < w.heap.size
      · exact h3
      · have h4 : w.heap[i]? = none := Array.getElem?_eq_none (by omega)
        simp [World.cell?, h4] at h1
    exact (hb.cell (p := ⟨i, 0, none⟩) h2).trans h1
  · obtain ⟨c, t, h1⟩ := h.row i hi
    exact ⟨c, t, (hb.block _ (h.lt hi)).trans h1⟩
theorem sents_of {P : Program} {nm : String} {ti tp te ts : TypeId} {ms : Array (String × TypeId)} {f : Field} {w : World} (S : SentTy P nm ti tp te ts ms f) {l : List (String × DataW Unit)} (hL : laidMet P l w) (pos : Nat → Nat) (m : Nat)
    (H : ∀ i, i < m → ∃ n t, l[pos i]? = some (n, sent nm t) ∧ P.globalNamed n = some i ∧ (P.globals[i]?).map (·.type) = some ti) (hp : ∀ i j, i < m → j < m → pos i = pos j → i = j) : ∃ A, Sents tp A m w := by
  obtain ⟨ps, hv, hnd, hr⟩ := hL
  have ex : ∀ i, i < m → ∃ a : Addr, w.cell? ⟨i, 0, none⟩ = some (.iface tp (.pointer (some a))) ∧ MemPlace.cell a.block a.off ∈ ps := fun i hi => by
    obtain ⟨n, t, h1, h2, h3⟩ := H i hi
    exact laid_at S hv hr h1 h2 h3
  refine ⟨fun i => if h : i < m then Classical.choose (ex i h) else ⟨0, 0, none⟩, fun i hi => ?_, fun i hi => ?_, fun i j hi hj hne => ?_⟩
  · rw [dif_pos hi]
    exact (Classical.choose_spec (ex i hi)).1
  · simp only [dif_pos hi]
    exact (hr _ _ (Classical.choose_spec (ex i hi)).2).1
  · simp only [dif_pos hi, dif_pos hj]
    obtain ⟨n, t, h1, h2, h3⟩ := H i hi
    obtain ⟨n', t', h1', h2', h3'⟩ := H j hj
    have c1 := (Classical.choose_spec (ex i hi)).1
    have c2 := (Classical.choose_spec (ex j hj)).1
    rcases Nat.lt_or_gt_of_ne (fun e => hne (hp i j hi hj e)) with h | h
    · exact laid_lt S hv hnd hr h1 h2 h3 h1' h2' h3' h c1 c2
    · exact (laid_lt S hv hnd hr h1' h2' h3' h1 h2 h3 h c2 c1).symm
end Go.Proofs.YthejepmnnpmdmaaGreatDoor.Sv
end
section
set_option linter.unusedVariables false
set_option linter.unusedSimpArgs false
/- lists of lists of terms that come as an argument are read -/
namespace Go.Proofs.YthejepmnnpmdmaaGreatDoor.Sv
open Go Go.ChangeShapes Go.WideShapes Go.ChangeAt Go.RowKit Go.Joins Go.Deep Rx
set_option maxRecDepth 100000
theorem add_none {a : Addr} (h : a.spot = none) (k : Nat) : a.add k = ⟨a.block, a.off + k, none⟩ := by
  obtain ⟨b, o, sp⟩ := a
  simp only at h
  subst h
  unfold Addr.add
  split
  · rename_i h; subst h; rfl
  · rfl
theorem list_of {α : Type} {Q : Nat → α → Prop} : ∀ (n : Nat), (∀ i, i < n → ∃ r, Q i r) → ∃ l : List α, l.length = n ∧ ∀ i r, l[i]? = some r → Q i r
  | 0, _ => ⟨[], rfl, by simp⟩
  | n + 1, h => by
    obtain ⟨l, h1, h2⟩ := list_of n fun i hi => h i (by omega)
    obtain ⟨r, hr⟩ := h n (by omega)
    refine ⟨l ++ [r], by simp [h1], fun i r' hi => ?_⟩
    by_cases hin : i < n
    · rw [List.getElem?_append_left (by omega)] at hi
      exact h2 i r' hi
    · have hie : i = n := by
        have := (List.getElem?_eq_some_iff.1 hi).1
        simp at this; omega
      subst hie
      rw [List.getElem?_append_right (by omega)] at hi
      obtain rfl : r = r' := by simpa [h1] using hi
      exact hr
theorem natu64 {z : Int} (h : (Lit.int .u64 z).wf = true) : ∃ n : Nat, z = (n : Int) ∧ n < 18446744073709551616 := by
  have e1 : IntKind.u64.min = 0 := rfl
  have e2 : IntKind.u64.max = 18446744073709551615 := rfl
  simp [Lit.wf, e1, e2] at h
  exact ⟨z.toNat, by omega, by omega⟩
section
variable {H : Type} {enc : TypeId × Value → H} {w : World} {base : Nat} {spare : Nat → Bool} {held : Bool}
theorem spot_none {w : World} {a : Addr} {v : Value} (h : w.cell? a = some v) : a.spot = none ∧ a.block < w.heap.size := by
  unfold World.cell? at h
  split at h
  · rename_i c _ _ hb
    split at h
    · cases h
    · rename_i hs
      exact ⟨by simpa using hs, (Array.getElem?_eq_some_iff.1 hb).1⟩
  · cases h
theorem openTerm {a : Addr} {cs : List Value} {fuel : Nat} {x : DataW H × List MemPlace} (hcs : w.cells? base a 6 = some cs) (h : DataW.trod enc Tryz.prog w base spare held fuel 36 cs = some x) :
    ∃ t : TV, a.spot = none ∧ a.block < w.heap.size ∧ TermAt w a.block a.off t ∧ t.a < 18446744073709551616 ∧ t.b < 18446744073709551616 ∧ t.c < 18446744073709551616 := by
  obtain ⟨-, hlen, hc⟩ := World.cells?_some hcs
  obtain ⟨xs, n, _, hx, _, hxl, hg⟩ := DataW.trod_struct Tryz.underlying36 h
  match cs, hlen with
  | [c0, c1, c2, c3, c4, c5], _ =>
    match xs, hxl with
    | [y0, y1, y2, y3, y4, y5], _ =>
      have g0 := hg 0 _ rfl
      have g1 := hg 1 _ rfl
      have g2 := hg 2 _ rfl
      have g3 := hg 3 _ rfl
      have g4 := hg 4 _ rfl
      have g5 := hg 5 _ rfl
      have k3 : Tryz.prog.cellsOf 3 = 1 := by kernel_rfl
      have k23 : Tryz.prog.cellsOf 23 = 1 := by kernel_rfl
      have k9 : Tryz.prog.cellsOf 9 = 1 := by kernel_rfl
      simp [k3, k23, k9] at g0 g1 g2 g3 g4 g5
      obtain ⟨z0, e0, -, w0⟩ := DataW.trod_int Tryz.underlying3 g0
      obtain ⟨z1, e1, -, w1⟩ := DataW.trod_int Tryz.underlying3 g1
      obtain ⟨z2, e2, -, w2⟩ := DataW.trod_int Tryz.underlying23 g2
      obtain ⟨z3, e3, -, w3⟩ := DataW.trod_int Tryz.underlying23 g3
      obtain ⟨z4, e4, -, w4⟩ := DataW.trod_int Tryz.underlying23 g4
      obtain ⟨z5, e5, -, w5⟩ := DataW.trod_string Tryz.underlying9 g5
      injection e0 with e0 _
      injection e1 with e1 _
      injection e2 with e2 _
      injection e3 with e3 _
      injection e4 with e4 _
      injection e5 with e5 _
      subst e0 e1 e2 e3 e4 e5
      obtain ⟨n2, rfl, h2⟩ := natu64 w2
      obtain ⟨n3, rfl, h3⟩ := natu64 w3
      obtain ⟨n4, rfl, h4⟩ := natu64 w4
      have q0 := hc 0 (by omega)
      have q1 := hc 1 (by omega)
      have q2 := hc 2 (by omega)
      have q3 := hc 3 (by omega)
      have q4 := hc 4 (by omega)
      have q5 := hc 5 (by omega)
      simp [Addr.add] at q0 q1 q2 q3 q4 q5
      obtain ⟨hs, hb⟩ := spot_none q0
      obtain ⟨B, off, sp⟩ := a
      simp only at hs
      subst hs
      exact ⟨⟨z0, z1, n2, n3, n4, z5.data.toList⟩, rfl, hb, ⟨q0, q1, q2, q3, q4, by rw [q5]; simp [bytesOf]⟩, h2, h3, h4⟩
theorem openRow {fuel : Nat} {v : Value} {x : DataW H × List MemPlace} (h : DataW.trod enc Tryz.prog w base spare held fuel 32 [v] = some x) :
    ∃ ts : List TV, RowIn w.heap.size w v ts ∧ ∀ t ∈ ts, t.a < 18446744073709551616 ∧ t.b < 18446744073709551616 ∧ t.c < 18446744073709551616 := by
  have k28 : Tryz.prog.cellsOf 36 = 6 := by kernel_rfl
  rcases DataW.trod_slice Tryz.underlying32 h with ⟨hcs, _⟩ | ⟨a, len, cap, elems, rest, n, _, hcs, hx, hb, hlc, hm, hel, hel2, _, _⟩
  · injection hcs with hcs _
    subst hcs
    exact ⟨[], ⟨none, 0, rfl, by simp⟩, by simp⟩
  · injection hcs with hcs _
    subst hcs
    have key : ∀ i, i < len → ∃ t : TV, (a.add (i * 6)).spot = none ∧ (a.add (i * 6)).block < w.heap.size ∧ TermAt w (a.add (i * 6)).block (a.add (i * 6)).off t ∧ t.a < 18446744073709551616 ∧ t.b < 18446744073709551616 ∧ t.c < 18446744073709551616 := fun i hi => by
      have h3 := hel2 i hi
      rw [k28, List.getElem?_eq_getElem (by omega)] at h3
      obtain ⟨cs, hcs, ht⟩ := Option.bind_eq_some_iff.1 h3
      exact openTerm hcs ht
    have hsp : 0 < len → a.spot = none := fun h0 => by
      obtain ⟨t, e1, -⟩ := key 0 h0
      simpa [Addr.add] using e1
    obtain ⟨l, h1, h2⟩ := list_of (Q := fun i (t : TV) => a.spot = none ∧ a.block < w.heap.size ∧ TermAt w a.block (a.off + i * 6) t ∧ t.a < 18446744073709551616 ∧ t.b < 18446744073709551616 ∧ t.c < 18446744073709551616) len fun i hi => by
      obtain ⟨t, e1, e2, e3, e4⟩ := key i hi
      have hs := hsp (by omega)
      rw [add_none hs] at e2 e3
      exact ⟨t, hs, e2, e3, e4⟩
    refine ⟨l, ⟨some a, cap, by rw [h1], fun i t ht => ?_⟩, fun t ht => ?_⟩
    · obtain ⟨e1, e2, e3, -⟩ := h2 i t ht
      obtain ⟨B, off, sp⟩ := a
      simp only at e1
      subst e1
      exact ⟨B, off, rfl, e2, e3⟩
    · obtain ⟨j, hj, rfl⟩ := List.getElem_of_mem ht
      exact (h2 j _ (List.getElem?_eq_getElem hj)).2.2.2
theorem openCon {fuel : Nat} {v : Value} {x : DataW H × List MemPlace} (h : DataW.trod enc Tryz.prog w base spare held fuel 22 [v] = some x) :
    ∃ C : List (List TV), ConIn w.heap.size w v C ∧ ∀ r ∈ C, ∀ t ∈ r, t.a < 18446744073709551616 ∧ t.b < 18446744073709551616 ∧ t.c < 18446744073709551616 := by
  have k26 : Tryz.prog.cellsOf 32 = 1 := by kernel_rfl
  rcases DataW.trod_slice Tryz.underlying22 h with ⟨hcs, _⟩ | ⟨a, len, cap, elems, rest, n, _, hcs, hx, hb, hlc, hm, hel, hel2, _, _⟩
  · injection hcs with hcs _
    subst hcs
    exact ⟨[], ⟨none, 0, rfl, by simp⟩, by simp⟩
  · injection hcs with hcs _
    subst hcs
    have key : ∀ i, i < len → ∃ r : List TV, ((a.add i).spot = none ∧ (a.add i).block < w.heap.size ∧ ∃ u, w.cell? (a.add i) = some u ∧ RowIn w.heap.size w u r) ∧ ∀ t ∈ r, t.a < 18446744073709551616 ∧ t.b < 18446744073709551616 ∧ t.c < 18446744073709551616 := fun i hi => by
      have h3 := hel2 i hi
      rw [k26, Nat.mul_one, List.getElem?_eq_getElem (by omega)] at h3
      obtain ⟨cs, hcs, ht⟩ := Option.bind_eq_some_iff.1 h3
      obtain ⟨-, hlen, hc⟩ := World.cells?_some hcs
      match cs, hlen with
      | [u], _ =>
        have q := hc 0 (by omega)
        have e0 : (a.add i).add 0 = a.add i := by simp [Addr.add]
        rw [e0] at q
        simp at q
        obtain ⟨s1, s2⟩ := spot_none q
        obtain ⟨r, hr1, hr2⟩ := openRow ht
        exact ⟨r, ⟨s1, s2, u, q, hr1⟩, hr2⟩
    have hsp : 0 < len → a.spot = none := fun h0 => by
      obtain ⟨t, ⟨e1, -⟩, -⟩ := key 0 h0
      simpa [Addr.add] using e1
    obtain ⟨l, h1, h2⟩ := list_of (Q := fun i (r : List TV) => (a.spot = none ∧ a.block < w.heap.size ∧ ∃ u, w.cell? ⟨a.block, a.off + i, none⟩ = some u ∧ RowIn w.heap.size w u r) ∧ ∀ t ∈ r, t.a < 18446744073709551616 ∧ t.b < 18446744073709551616 ∧ t.c < 18446744073709551616) len fun i hi => by
      obtain ⟨t, ⟨e1, e2, u, e3, e4⟩, e5⟩ := key i hi
      have hs := hsp (by omega)
      rw [add_none hs] at e2 e3
      exact ⟨t, ⟨hs, e2, u, e3, e4⟩, e5⟩
    refine ⟨l, ⟨some a, cap, by rw [h1], fun i r hr => ?_⟩, fun r hr => ?_⟩
    · obtain ⟨⟨e1, e2, u, e3, e4⟩, -⟩ := h2 i r hr
      obtain ⟨B, off, sp⟩ := a
      simp only at e1
      subst e1
      exact ⟨B, off, u, rfl, e2, e3, e4⟩
    · obtain ⟨j, hj, rfl⟩ := List.getElem_of_mem hr
      exact (h2 j _ (List.getElem?_eq_getElem hj)).2
end
end Go.Proofs.YthejepmnnpmdmaaGreatDoor.Sv
end
section
set_option linter.unusedVariables false
set_option linter.unusedSimpArgs false
namespace Go.Proofs.YthejepmnnpmdmaaGreatDoor.Sv
open Go Go.ChangeShapes Go.WideShapes Go.ChangeAt Go.RowKit Go.Joins Go.Deep
set_option maxRecDepth 100000
theorem own : ownKnob Tryz.prog.godebug = none := by kernel_rfl
theorem laidOut : laidOutB Tryz.prog = true := by kernel_rfl
abbrev laidL : List (String × DataW Unit) := Rows.fnSemverBrokenRow.laid
/-- the tables that the row lists -/
theorem tabs_of {W : World} (hL : laidMetH Tryz.prog laidL W) : Lib.Utf8Tabs 11 12 W := by
  rw [MakeChecks.laidMetH_plain _ _ _ (by kernel_rfl)] at hL
  have e1 : (Rows.laid_unicode_utf8_first : DataW Unit) = Lib.firstData := by kernel_rfl
  have e2 : (Rows.laid_unicode_utf8_acceptRanges : DataW Unit) = Lib.acceptData := by kernel_rfl
  have h1 := Lib.laidMet.reads hL (n := "unicode/utf8.first") (d := Rows.laid_unicode_utf8_first) (.tail _ (.tail _ (.tail _ (.tail _ (.tail _ (.tail _ (.tail _ (.tail _ (.tail _ (.tail _ (.tail _ (.tail _ (.tail _ (.tail _ (.tail _ (.head _))))))))))))))))
  have h2 := Lib.laidMet.reads hL (n := "unicode/utf8.acceptRanges") (d := Rows.laid_unicode_utf8_acceptRanges) (.tail _ (.tail _ (.tail _ (.head _))))
  rw [e1] at h1
  rw [e2] at h2
  exact utf8Tabs_of_reads (ρ := Tryz.lays197_ren) { Tryz.lays197 with } ⟨by kernel_rfl, by kernel_rfl, by kernel_rfl, by kernel_rfl, by kernel_rfl, by kernel_rfl, by kernel_rfl⟩ h1 h2
theorem star : "*" ++ "errors.errorString" = "*errors.errorString" := by decide
theorem row98 (u : TypeId) (h : Tryz.prog.typeName? 3 u = some "*errors.errorString") : u = 98 :=
  typeName_ptr_named (P := Tryz.prog) (nm := "errors.errorString") (by rw [star]; kernel_rfl) (by kernel_rfl) (by decide) u (by rw [star]; exact h)
/-- the sentinels that the row lists -/
theorem sents {W : World} (hL : laidMetH Tryz.prog laidL W) : ∃ A, Sents 98 A 1 W := by
  rw [MakeChecks.laidMetH_plain _ _ _ (by kernel_rfl)] at hL
  refine sents_of ⟨Tryz.underlying42, row98, Tryz.underlying98, Tryz.underlying100, rfl, rfl, Tryz.underlying9, by kernel_rfl, by kernel_rfl⟩ hL (fun _ => 6) 1 (fun i hi => ?_) (fun i j hi hj h => by omega)
  obtain rfl : i = 0 := by omega
  exact ⟨_, _, rfl, by kernel_rfl, by kernel_rfl⟩
theorem cap_of {H : Type} {enc : TypeId × Value → H} {w : World} {base : Nat} {spare : Nat → Bool} {held : Bool} {fuel : Nat} {a : Option Addr} {len cap : Nat} {x : DataW H × List MemPlace} (h : DataW.trod enc Tryz.prog w base spare held fuel 22 [.slice a len cap] = some x) : len ≤ cap := by
  rcases DataW.trod_slice Tryz.underlying22 h with ⟨hcs, _⟩ | ⟨a', len', cap', elems, rest, n, _, hcs, hx, hb, hlc, hm, hel, hel2, _, _⟩
  · injection hcs with hcs _
    injection hcs with e1 e2 e3
    omega
  · injection hcs with hcs _
    injection hcs with e1 e2 e3
    omega
theorem natu8 {z : Int} (h : (Lit.int .u8 z).wf = true) : ∃ n : Nat, z = (n : Int) ∧ n < 256 := by
  have e1 : IntKind.u8.min = 0 := rfl
  have e2 : IntKind.u8.max = 255 := rfl
  simp [Lit.wf, e1, e2] at h
  exact ⟨z.toNat, by omega, by omega⟩
theorem lifted (os : Os) (started : os.Started) (H : Type) (enc : TypeId × Value → H) :
    ReturnsInHanded {} Tryz.checked os 3 .any (fun w args => (Rows.fnSemverBrokenSpec.pre enc Tryz.prog Tryz.f3 Rows.fnSemverBrokenRow.domain false w args ∧ laidMetH Tryz.prog laidL w) ∧ sizedMet enc Tryz.prog Tryz.f3 (OpenSpec.ofChange Rows.fnSemverBrokenSpec) false w args)
      (Rows.fnSemverBrokenSpec.post enc Tryz.prog Tryz.f3 false true false false) := by
  refine returnsInHanded_of_change_and (C := Tryz.checked) (X := fun w _ => laidMetH Tryz.prog laidL w) (fun _ _ _ hh h => h.of_heap hh) own started (by kernel_rfl) Tryz.func3
    (ChangeSpec.witness_shaped (enc := enc) (C := Tryz.checked) (os := os) (X := fun w _ => laidMetH Tryz.prog laidL w) false (World.laidAll Tryz.prog os laidL) #[.slice none 0 0, .int .u64 0, .int .u8 0] 8 (World.laidAll_os _ _ _)
      (World.shaped_of_ZipB (by kernel_rfl) (by kernel_rfl)) (by kernel_rfl) (by kernel_rfl) (by kernel_rfl)
      (by rw [MakeChecks.laidMetH_plain _ _ _ (by kernel_rfl)]; exact laidMet_laidAll _ (by kernel_rfl) (by kernel_rfl))) ?_
  intro W base args ds gs before hval0 hW hc _ hL _
  have hval : ∀ (j : Nat) t v, Tryz.f3.params[j]? = some t → args[j]? = some v → Value.okWide Tryz.prog W .any base t v := hval0
  have hW' := hW
  obtain ⟨p, q, hA0, hV, rfl, hfz, hnd⟩ := hW
  have hA : DataW.TrodAll enc Tryz.prog W 0 (fun _ => true) true Tryz.f3.params.toList args.toList ds p := hA0
  rw [Tryz.params3] at hA hval
  obtain ⟨v0, vs0, d0, ds0, p0, q0, hargs, rfl, rfl, h0, r0⟩ := trodAll_cons hA
  obtain ⟨v1, vs1, d1, ds1, p1, q1, rfl, rfl, rfl, h1, r1⟩ := trodAll_cons r0
  obtain ⟨v2, vs2, d2, ds2, p2, q2, rfl, rfl, rfl, h2, r2⟩ := trodAll_cons r1
  obtain ⟨rfl, rfl, rfl⟩ := trodAll_nil r2
  obtain rfl : args = #[v0, v1, v2] := by cases args; simp_all
  obtain ⟨rfl, rfl⟩ := trodVars_none hV
  have k0 := h0
  have lt0 : ∀ x ∈ p0, x.block < W.heap.size := by obtain ⟨m, hm⟩ := k0; exact DataW.trod_lt m _ _ _ hm
  have k1 := h1
  have lt1 : ∀ x ∈ p1, x.block < W.heap.size := by obtain ⟨m, hm⟩ := k1; exact DataW.trod_lt m _ _ _ hm
  have k2 := h2
  have lt2 : ∀ x ∈ p2, x.block < W.heap.size := by obtain ⟨m, hm⟩ := k2; exact DataW.trod_lt m _ _ _ hm
  obtain ⟨m0, hm0⟩ := h0
  obtain ⟨sa, sl, sc, rfl⟩ := okWide_slice Tryz.underlying22 (hval 0 22 v0 rfl rfl)
  obtain ⟨C, hC, hU⟩ := openCon (v := .slice sa sl sc) hm0
  obtain ⟨x, rfl, -, -⟩ := open_int Tryz.underlying23 (hval 1 23 v1 rfl rfl) h1
  obtain ⟨y, rfl, -, -, hy⟩ := open_int Tryz.underlying5 (hval 2 5 v2 rfl rfl) h2
  obtain ⟨c, rfl, hc8⟩ := natu8 hy
  obtain ⟨A, hSE⟩ := sents hL
  have hcap := cap_of hm0
  obtain ⟨ca, cc, hsl, hcon⟩ := id hC
  injection hsl with es1 es2 es3
  subst es2
  refine (lawB sa sc C x c hc8 W hC hcap hU (A 0) (hSE.cell 0 (by omega)) (tabs_of hL)).mono fun e W' h => ?_
  obtain ⟨he, bel⟩ := h
  subst he
  exact ⟨_, rfl, _, _, _, [], _, [], hW', trodAll_mk1 (shut_bool Tryz.underlying4 _), (trodAll_cons_mk (Below.trod laidOut (by kernel_rfl) (of_decide_eq_true (by kernel_rfl)) k0 bel lt0) (trodAll_cons_mk (Below.trod laidOut (by kernel_rfl) (of_decide_eq_true (by kernel_rfl)) k1 bel lt1) (trodAll_cons_mk (Below.trod laidOut (by kernel_rfl) (of_decide_eq_true (by kernel_rfl)) k2 bel lt2) trodAll_mk0))), rfl, bel.frame _, fun h => by cases h⟩
theorem over : Rows.FnSemverBrokenSaid :=
  OpenClaim.holds_of_wide 3 Tryz.f3 rfl rfl rfl rfl rfl rfl rfl ⟨rfl, rfl, rfl, rfl, rfl⟩ rfl rfl rfl rfl rfl (by kernel_rfl) Tryz.func3 (by kernel_rfl)
    (of_decide_eq_true (by kernel_rfl)) (by unfold Func.isWrapper; first | (rw [if_pos (by decide +kernel)]; kernel_rfl) | (rw [if_neg (by decide +kernel)]; exact ⟨rfl, rfl⟩))
    (fun os started H enc _ => lifted os started H enc)
end Go.Proofs.YthejepmnnpmdmaaGreatDoor.Sv
namespace Go.Proofs.YthejepmnnpmdmaaGreatDoor
/-- The law holds of every input; what it lists is tied to the program's text. -/
theorem fnSemverBroken_card : Rows.FnSemverBrokenCardSaid :=
  Claim7.holds_tied_plain_at .later [] [.data, .data, .data, .data, .sentinel, .sentinel, .sentinel, .sentinel, .sentinel, .sentinel, .sentinel, .sentinel, .sentinel, .sentinel, .sentinel, .pinned] true (true, "e87106a5e733f197ea8c1cad32a2e97af2f88734da84c191e67d0084362c6b4e") true Sv.over (fun _ h => by cases h) (by kernel_rfl) (fun _ h => by cases h) fnSemverBroken_row_tie rfl ⟨rfl, rfl⟩ (by kernel_rfl) rfl
    (fun f fn hf hfn => by
      obtain rfl : f = 3 := Option.some.inj ((show Tryz.prog.funcNamed "pub-timebook/laws.FnSemverBroken" = some 3 by kernel_rfl).symm.trans hf) |>.symm
      obtain rfl : fn = Tryz.f3 := (Option.some.inj (Tryz.func3.symm.trans hfn)).symm
      exact ⟨by kernel_rfl, fun j t ht => by
        rw [Tryz.params3] at ht
        have hm : t ∈ [22, 23, 5] := by simpa using Array.mem_of_getElem? ht
        have hall : ([22, 23, 5].all fun u => !Tryz.prog.wantsStandIn u) = true := by kernel_rfl
        exact (show Tryz.prog.wantsStandIn t = false by simpa using List.all_eq_true.1 hall t hm)⟩)
    (by kernel_rfl)
end Go.Proofs.YthejepmnnpmdmaaGreatDoor
#print axioms Go.Proofs.YthejepmnnpmdmaaGreatDoor.fnSemverBroken_card
end
