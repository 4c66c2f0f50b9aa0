/- The arguments, opened to their cells. -/
import Derived.Test.YbulkasdyLaw
import Derived.ProofKit
import Derived.OpenShut
import Derived.Deep.SlicePairs
namespace Go.Proofs.Ybulkasdy
open Go.ChangeShapes Go.WideShapes Go.ChangeAt Go.RowKit Go.Deep

theorem Yba.cells27 : Yba.prog.cellsOf 27 = 4 := by kernel_rfl
theorem Yba.cells23 : Yba.prog.cellsOf 23 = 1 := by kernel_rfl
theorem Yba.cells25 : Yba.prog.cellsOf 25 = 1 := by kernel_rfl
theorem Yba.cells52 : Yba.prog.cellsOf 52 = 2 := by kernel_rfl
theorem Yba.cells5 : Yba.prog.cellsOf 5 = 1 := by kernel_rfl

/-- From 'for every i < n there is an x' to one function that keeps a bound everywhere. -/
theorem choose2 {α : Type} (z : α) {n : Nat} {p : Nat → α → Prop} {B : α → Prop} (hz : B z) (h : ∀ i, i < n → ∃ x, p i x ∧ B x) : ∃ f : Nat → α, (∀ i, i < n → p i (f i)) ∧ ∀ i, B (f i) := by
  classical
  refine ⟨fun i => if hi : i < n then Classical.choose (h i hi) else z, fun i hi => ?_, fun i => ?_⟩
  · simp only [dif_pos hi]
    exact (Classical.choose_spec (h i hi)).1
  · by_cases hi : i < n
    · simp only [dif_pos hi]
      exact (Classical.choose_spec (h i hi)).2
    · simp only [dif_neg hi]
      exact hz

/-- An address under which a cell lies bears no spot. -/
theorem flat_of_cell {w : World} {a : Addr} {v : Value} (h : w.cell? (a.add 0) = some v) : a = ⟨a.block, a.off, none⟩ := by
  obtain ⟨b, o, s⟩ := a
  cases s with
  | none => rfl
  | some s =>
    simp only [Addr.add, World.cell?] at h
    split at h <;> simp at h

theorem add_flat (b o i : Nat) : (⟨b, o, none⟩ : Addr).add i = ⟨b, o + i, none⟩ := by
  unfold Addr.add
  split
  · simp_all
  · rfl

section
variable {H : Type} {enc : TypeId × Value → H} {w : World} {base : Nat} {spare : Nat → Bool} {held : Bool}

/-- A list of entries. -/
theorem open_pairs {fuel : Nat} {v : Value} {x : DataW H × List MemPlace} (h : DataW.trod enc Yba.prog w base spare held fuel 25 [v] = some x) :
    ∃ (q : Option Addr) (N cap b o : Nat) (K M : Nat → Int), v = .slice q N cap ∧ (0 < N → q = some ⟨b, o, none⟩) ∧ (∀ k, 0 ≤ K k ∧ K k ≤ 255) ∧ (∀ k, -128 ≤ M k ∧ M k ≤ 127) ∧
      (∀ k, k < N → w.cell? ⟨b, o + k * 2, none⟩ = some (.int .u8 (K k))) ∧ (∀ k, k < N → w.cell? ⟨b, o + k * 2 + 1, none⟩ = some (.int .i8 (M k))) := by
  rcases open_slice_pairs Yba.underlying25 Yba.underlying52 Yba.cells52 rfl rfl Yba.cells5 Yba.cells23 h with ⟨hv, _⟩ | ⟨a, len, cap, m, n, V0, V1, D0, D1, P0, P1, hv, _, hl, _, hm, _, hx⟩
  · injection hv with hv
    exact ⟨none, 0, 0, 0, 0, fun _ => 0, fun _ => 0, hv, fun h => absurd h (by omega), fun _ => by simp, fun _ => by simp, fun k hk => by omega, fun k hk => by omega⟩
  · injection hv with hv
    have hlm : len ≤ m := by rw [hm]; split <;> omega
    have each : ∀ i, i < len → ∃ x : Int × Int, (w.cell? (a.add (i * 2)) = some (.int .u8 x.1) ∧ w.cell? (a.add (i * 2 + 1)) = some (.int .i8 x.2)) ∧ ((0 ≤ x.1 ∧ x.1 ≤ 255) ∧ (-128 ≤ x.2 ∧ x.2 ≤ 127)) := fun i hi => by
      obtain ⟨g0, g1, g2, g3⟩ := hx i (by omega)
      obtain ⟨y0, e0, _, b0⟩ := DataW.trod_int Yba.underlying5 g2
      obtain ⟨y1, e1, _, b1⟩ := DataW.trod_int Yba.underlying23 g3
      injection e0 with e0
      injection e1 with e1
      exact ⟨(y0, y1), ⟨by rw [g0, e0], by rw [g1, e1]⟩, bounds_u8 b0, bounds_i8 b1⟩
    obtain ⟨f, hf, hb⟩ := choose2 ((0, 0) : Int × Int) (by omega) each
    have hfl : 0 < len → a = ⟨a.block, a.off, none⟩ := fun hp => flat_of_cell (by have := (hf 0 hp).1; rwa [Nat.zero_mul] at this)
    refine ⟨some a, len, cap, a.block, a.off, fun k => (f k).1, fun k => (f k).2, hv, fun hp => by rw [← hfl hp], fun k => (hb k).1, fun k => (hb k).2, fun k hk => ?_, fun k hk => ?_⟩
    · have := (hf k hk).1
      rw [hfl (by omega), add_flat] at this
      exact this
    · have := (hf k hk).2
      rw [hfl (by omega), add_flat] at this
      exact this

/-- The keys. -/
theorem open_keys {fuel : Nat} {v : Value} {x : DataW H × List MemPlace} (h : DataW.trod enc Yba.prog w base spare held fuel 24 [v] = some x) :
    ∃ (q : Option Addr) (N cap b o : Nat) (K : Nat → Int), v = .slice q N cap ∧ (0 < N → q = some ⟨b, o, none⟩) ∧ (∀ k, 0 ≤ K k ∧ K k ≤ 255) ∧ (∀ k, k < N → w.cell? ⟨b, o + k, none⟩ = some (.int .u8 (K k))) := by
  rcases open_slice1 Yba.underlying24 Yba.cells5 h with ⟨hv, _⟩ | ⟨a, len, cap, m, n, V, D, Pl, hv, _, hl, _, hm, _, hx⟩
  · injection hv with hv
    exact ⟨none, 0, 0, 0, 0, fun _ => 0, hv, fun h => absurd h (by omega), fun _ => by simp, fun k hk => by omega⟩
  · injection hv with hv
    have hlm : len ≤ m := by rw [hm]; split <;> omega
    have each : ∀ i, i < len → ∃ x : Int, w.cell? (a.add i) = some (.int .u8 x) ∧ (0 ≤ x ∧ x ≤ 255) := fun i hi => by
      obtain ⟨g0, g1⟩ := hx i (by omega)
      obtain ⟨y0, e0, _, b0⟩ := DataW.trod_int Yba.underlying5 g1
      injection e0 with e0
      exact ⟨y0, by rw [g0, e0], bounds_u8 b0⟩
    obtain ⟨f, hf, hb⟩ := choose2 (0 : Int) (by omega) each
    have hfl : 0 < len → a = ⟨a.block, a.off, none⟩ := fun hp => flat_of_cell (hf 0 hp)
    refine ⟨some a, len, cap, a.block, a.off, f, hv, fun hp => by rw [← hfl hp], hb, fun k hk => ?_⟩
    have := hf k hk
    rw [hfl (by omega), add_flat] at this
    exact this

/-- One member. -/
structure Memb where
  sf : Int
  wf : Int
  sq : Option Addr
  SN : Nat
  scap : Nat
  eb : Nat
  eo : Nat
  EK : Nat → Int
  EN : Nat → Int
  wq : Option Addr
  WN : Nat
  wcap : Nat
  fb : Nat
  fo : Nat
  FK : Nat → Int
  FN : Nat → Int

/-- A member's bounds. -/
def Memb.Bnd (m : Memb) : Prop := (-128 ≤ m.sf ∧ m.sf ≤ 127) ∧ (-128 ≤ m.wf ∧ m.wf ≤ 127) ∧ (∀ k, 0 ≤ m.EK k ∧ m.EK k ≤ 255) ∧ (∀ k, -128 ≤ m.EN k ∧ m.EN k ≤ 127) ∧ (∀ k, 0 ≤ m.FK k ∧ m.FK k ≤ 255) ∧ (∀ k, -128 ≤ m.FN k ∧ m.FN k ≤ 127)

/-- A member's cells at a place. -/
structure Memb.At (w : World) (a : Addr) (m : Memb) : Prop where
  m0 : w.cell? (a.add 0) = some (.int .i8 m.sf)
  m1 : w.cell? (a.add 1) = some (.int .i8 m.wf)
  m2 : w.cell? (a.add 2) = some (.slice m.sq m.SN m.scap)
  m3 : w.cell? (a.add 3) = some (.slice m.wq m.WN m.wcap)
  hsq : 0 < m.SN → m.sq = some ⟨m.eb, m.eo, none⟩
  hwq : 0 < m.WN → m.wq = some ⟨m.fb, m.fo, none⟩
  e0 : ∀ k, k < m.SN → w.cell? ⟨m.eb, m.eo + k * 2, none⟩ = some (.int .u8 (m.EK k))
  e1 : ∀ k, k < m.SN → w.cell? ⟨m.eb, m.eo + k * 2 + 1, none⟩ = some (.int .i8 (m.EN k))
  f0 : ∀ k, k < m.WN → w.cell? ⟨m.fb, m.fo + k * 2, none⟩ = some (.int .u8 (m.FK k))
  f1 : ∀ k, k < m.WN → w.cell? ⟨m.fb, m.fo + k * 2 + 1, none⟩ = some (.int .i8 (m.FN k))

theorem four_of {α : Type} : ∀ (l : List α), l.length = 4 → ∃ a b c d, l = [a, b, c, d]
  | [a, b, c, d], _ => ⟨a, b, c, d, rfl⟩

set_option maxRecDepth 100000 in
theorem open_memb {fuel : Nat} {cs : List Value} {a : Addr} {x : DataW H × List MemPlace} (hc : w.cells? base a 4 = some cs) (h : DataW.trod enc Yba.prog w base spare held fuel 27 cs = some x) : ∃ m : Memb, m.At w a ∧ m.Bnd := by
  obtain ⟨_, hlen, hcell⟩ := World.cells?_some hc
  obtain ⟨xs, k, _, _, _, hxl, hf⟩ := DataW.trod_struct Yba.underlying27 h
  have hx4 : xs.length = 4 := hxl
  clear hxl
  obtain ⟨y0, y1, y2, y3, rfl⟩ := four_of xs hx4
  obtain ⟨v0, v1, v2, v3, rfl⟩ := four_of cs hlen
  have g0 : DataW.trod enc Yba.prog w base spare held k 23 (List.take (Yba.prog.cellsOf 23) (List.drop 0 [v0, v1, v2, v3])) = some y0 := hf 0 _ rfl
  rw [Yba.cells23] at g0
  have g1 : DataW.trod enc Yba.prog w base spare held k 23 (List.take (Yba.prog.cellsOf 23) (List.drop 1 [v0, v1, v2, v3])) = some y1 := hf 1 _ rfl
  rw [Yba.cells23] at g1
  have g2 : DataW.trod enc Yba.prog w base spare held k 25 (List.take (Yba.prog.cellsOf 25) (List.drop 2 [v0, v1, v2, v3])) = some y2 := hf 2 _ rfl
  rw [Yba.cells25] at g2
  have g3 : DataW.trod enc Yba.prog w base spare held k 25 (List.take (Yba.prog.cellsOf 25) (List.drop 3 [v0, v1, v2, v3])) = some y3 := hf 3 _ rfl
  rw [Yba.cells25] at g3
  have e0 := hcell 0 (by omega)
  have e1 := hcell 1 (by omega)
  have e2 := hcell 2 (by omega)
  have e3 := hcell 3 (by omega)
  obtain ⟨sf, i0, _, b0⟩ := DataW.trod_int Yba.underlying23 g0
  obtain ⟨wf, i1, _, b1⟩ := DataW.trod_int Yba.underlying23 g1
  obtain ⟨sq, SN, scap, eb, eo, EK, EN, i2, c1, c2, c3, c4, c5⟩ := open_pairs (v := v2) g2
  obtain ⟨wq, WN, wcap, fb, fo, FK, FN, i3, d1, d2, d3, d4, d5⟩ := open_pairs (v := v3) g3
  injection i0 with i0
  injection i1 with i1
  subst i0 i1 i2 i3
  exact ⟨⟨sf, wf, sq, SN, scap, eb, eo, EK, EN, wq, WN, wcap, fb, fo, FK, FN⟩, ⟨e0, e1, e2, e3, c1, d1, c4, c5, d4, d5⟩, bounds_i8 b0, bounds_i8 b1, c2, c3, d2, d3⟩

/-- The members. -/
theorem open_membs {fuel : Nat} {v : Value} {x : DataW H × List MemPlace} (h : DataW.trod enc Yba.prog w base spare held fuel 22 [v] = some x) :
    ∃ (q : Option Addr) (n cap b o : Nat) (f : Nat → Memb), v = .slice q n cap ∧ (0 < n → q = some ⟨b, o, none⟩) ∧ (∀ i, i < n → (f i).At w ⟨b, o + i * 4, none⟩) ∧ ∀ i, (f i).Bnd := by
  have hz : Memb.Bnd ⟨0, 0, none, 0, 0, 0, 0, fun _ => 0, fun _ => 0, none, 0, 0, 0, 0, fun _ => 0, fun _ => 0⟩ := ⟨by simp, by simp, fun _ => by simp, fun _ => by simp, fun _ => by simp, fun _ => by simp⟩
  rcases open_slice Yba.underlying22 h with ⟨hv, _⟩ | ⟨a, len, cap, m, n, D, Pl, hv, _, hl, _, hm, _, hx⟩
  · injection hv with hv
    exact ⟨none, 0, 0, 0, 0, fun _ => ⟨0, 0, none, 0, 0, 0, 0, fun _ => 0, fun _ => 0, none, 0, 0, 0, 0, fun _ => 0, fun _ => 0⟩, hv, fun h => absurd h (by omega), fun k hk => by omega, fun _ => hz⟩
  · injection hv with hv
    rw [Yba.cells27] at hx
    have hlm : len ≤ m := by rw [hm]; split <;> omega
    have each : ∀ i, i < len → ∃ y : Memb, y.At w (a.add (i * 4)) ∧ y.Bnd := fun i hi => by
      obtain ⟨cs', g0, g1⟩ := hx i (by omega)
      exact open_memb g0 g1
    obtain ⟨f, hf, hb⟩ := choose2 _ hz each
    have hfl : 0 < len → a = ⟨a.block, a.off, none⟩ := fun hp => flat_of_cell (by have := (hf 0 hp).m0; rw [Nat.zero_mul, add_add] at this; exact this)
    refine ⟨some a, len, cap, a.block, a.off, f, hv, fun hp => by rw [← hfl hp], fun i hi => ?_, hb⟩
    have := hf i hi
    rw [hfl (by omega), add_flat] at this
    exact this

/-- The members as the walk wants them. -/
def givenOf (f : Nat → Memb) : Given := ⟨fun i => (f i).SN, fun i => (f i).WN, fun i => (f i).eb, fun i => (f i).eo, fun i => (f i).fb, fun i => (f i).fo, fun i => (f i).sq, fun i => (f i).wq, fun i => (f i).scap, fun i => (f i).wcap, fun i => (f i).sf, fun i => (f i).wf,
  fun i => (f i).EK, fun i => (f i).EN, fun i => (f i).FK, fun i => (f i).FN⟩

theorem inp_of {mq kq : Option Addr} {n nk mb mo kb ko : Nat} {f : Nat → Memb} {q : Nat → Int} (hmq : 0 < n → mq = some ⟨mb, mo, none⟩) (hm : ∀ i, i < n → (f i).At w ⟨mb, mo + i * 4, none⟩) (hb : ∀ i, (f i).Bnd)
    (hkq : 0 < nk → kq = some ⟨kb, ko, none⟩) (bq : ∀ k, 0 ≤ q k ∧ q k ≤ 255) (hk : ∀ k, k < nk → w.cell? ⟨kb, ko + k, none⟩ = some (.int .u8 (q k))) : Inp w mb mo kb ko nk n mq kq (givenOf f) q :=
  { hmq := hmq, hkq := hkq
    m0 := fun i hi => by have := (hm i hi).m0; rw [add_flat] at this; exact this
    m1 := fun i hi => by have := (hm i hi).m1; rw [add_flat] at this; exact this
    m2 := fun i hi => by have := (hm i hi).m2; rw [add_flat] at this; exact this
    m3 := fun i hi => by have := (hm i hi).m3; rw [add_flat] at this; exact this
    hsq := fun i hi => (hm i hi).hsq, hwq := fun i hi => (hm i hi).hwq
    eK := fun i => (hb i).2.2.1, eN := fun i => (hb i).2.2.2.1, fK := fun i => (hb i).2.2.2.2.1, fN := fun i => (hb i).2.2.2.2.2, bq := bq
    e0 := fun i hi => (hm i hi).e0, e1 := fun i hi => (hm i hi).e1, f0 := fun i hi => (hm i hi).f0, f1 := fun i hi => (hm i hi).f1, k0 := hk
    bsf := fun i => (hb i).1, bwf := fun i => (hb i).2.1 }
end
end Go.Proofs.Ybulkasdy
