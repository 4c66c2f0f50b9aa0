/- The walks of strconv.AppendUint at base 10 (function 7) and of (*arithExchange).request (function 4), onto a row of bytes that the call owns. -/
import Derived.Test.YbulkasdyDoorDec
import Derived.Test.YbulkasdyDoorShelf
import Derived.Lib.AppendIntMem
import Derived.Lib.ItoaLen
namespace Go.Proofs.YbulkasdyDoor
open Go.RowKit

theorem hideIt {p : Prop} (h : p) : Hid p := h

/-- Numbers as cells of bytes. -/
def ic (l : List Int) : List Value := l.map (Value.int .u8)
/-- A string's bytes as numbers. -/
def sI (s : ByteArray) : List Int := s.data.toList.map fun b => (b.toNat : Int)
/-- A list of bytes as numbers. -/
def bI (l : List UInt8) : List Int := l.map fun b => (b.toNat : Int)

theorem sI_length (s : ByteArray) : (sI s).length = s.size := by simp [sI]
theorem ic_length (l : List Int) : (ic l).length = l.length := by simp [ic]
theorem ic_append (a b : List Int) : ic (a ++ b) = ic a ++ ic b := by simp [ic]
theorem strCells_ic (s : ByteArray) : Lib.strCells s = ic (sI s) := by simp [Lib.strCells, ic, sI]
theorem byteCells_ic (l : List UInt8) : Lib.byteCells l = ic (bI l) := by simp [Lib.byteCells, ic, bI]

/-- v is a slice over a row of the call's own that holds L; below B and in the blocks of other kinds all is as in w0. -/
def Own (B : Nat) (w0 w : World) (v : Value) (L : List Int) : Prop :=
  w.ownsRow B 5 1 v L.length (ic L) ∧ Below B w0 w ∧ Lib.OthersKept 5 none w0 w

theorem Own.str {B : Nat} {w0 w w' : World} {v v' : Value} {L : List Int} (h : Own B w0 w v L) (hB : B ≤ w0.heap.size) (s : ByteArray)
    (hown : w'.ownsRow B 5 1 v' (L.length + s.size) (ic L ++ Lib.strCells s)) (hg : w.grownBy w' v.ownBlock) : Own B w0 w' v' (L ++ sI s) := by
  refine ⟨?_, h.2.1.grown hg (Nat.le_trans hB h.2.1.size) (fun k hk => (h.1.lt k hk).1), h.2.2.grown hg (Lib.ownsRow_kind h.1)⟩
  rw [List.length_append, sI_length, ic_append, ← strCells_ic]
  exact hown

theorem Own.strx {B : Nat} {w0 w w' : World} {v v' : Value} {L : List Int} (h : Own B w0 w v L) (hB : B ≤ w0.heap.size) (s : ByteArray) (m M : Nat) (hs : s.size ≤ m) (hM : L.length ≤ M)
    (hown : w'.ownsRow B 5 1 v' (L.length + s.size) (ic L ++ Lib.strCells s)) (hg : w.grownBy w' v.ownBlock) : ∃ L', Hid (L' = L ++ sI s) ∧ L'.length ≤ M + m ∧ Own B w0 w' v' L' :=
  ⟨_, rfl, by rw [List.length_append, sI_length]; omega, h.str hB s hown hg⟩

theorem Own.dig {B : Nat} {w0 w w' : World} {v v' : Value} {L : List Int} {u : Nat} (h : Own B w0 w v L)
    (hown : w'.ownsRow B 5 1 v' (L.length + (Lib.decDigits u).length) (ic L ++ Lib.byteCells (Lib.decDigits u))) (hb : Below B w w') (hk : Lib.OthersKept 5 none w w') : Own B w0 w' v' (L ++ bI (Lib.decDigits u)) := by
  refine ⟨?_, h.2.1.trans hb, h.2.2.trans hk⟩
  rw [List.length_append, ic_append, ← byteCells_ic, show (bI (Lib.decDigits u)).length = (Lib.decDigits u).length by simp [bI]]
  exact hown

theorem Own.digx {B M : Nat} {w0 w w' : World} {v v' : Value} {L : List Int} {u : Nat} (h : Own B w0 w v L) (hu : u < 18446744073709551616) (hM : L.length ≤ M)
    (hown : w'.ownsRow B 5 1 v' (L.length + (Lib.decDigits u).length) (ic L ++ Lib.byteCells (Lib.decDigits u))) (hb : Below B w w') (hk : Lib.OthersKept 5 none w w') : ∃ L', Hid (L' = L ++ bI (Lib.decDigits u)) ∧ L'.length ≤ M + 20 ∧ Own B w0 w' v' L' :=
  ⟨_, rfl, by
    have h1 := Lib.nDigits_le20 u hu
    have h2 := Lib.decDigits_length u
    have h3 : (bI (Lib.decDigits u)).length = (Lib.decDigits u).length := by simp [bI]
    rw [List.length_append]; omega, h.dig hown hb hk⟩

set_option maxHeartbeats 1000000 in
set_option maxRecDepth 100000 in
theorem appendUint_any (B n u : Nat) (hu64 : u < 18446744073709551616) (sv : Value) (xs : List Value) (w : World) (hown : w.ownsRow B 5 1 sv n xs) (hBw : B ≤ w.heap.size) (hlim : n + 20 ≤ 140737488355328)
    (htab : Lib.TabIs Ybad.prog w powName .u64 Lib.pow10Tab) :
    Calls Ybad.prog 7 #[sv, .int .u64 u, .int .i64 10] w fun e w' => ∃ v', e = .returned v' ∧ w'.ownsRow B 5 1 v' (n + (Lib.decDigits u).length) (xs ++ Lib.byteCells (Lib.decDigits u)) ∧ Below B w w' ∧ Lib.OthersKept 5 none w w' := by
  have H : Calls Ybad.prog 8 #[sv, .int .u64 u, .int .i64 10] w fun e w' => ∃ v', e = .returned v' ∧ w'.ownsRow B 5 1 v' (n + (Lib.decDigits u).length) (xs ++ Lib.byteCells (Lib.decDigits u)) ∧ Below B w w' ∧ Lib.OthersKept 5 none w w' := by
    by_cases h : u < 100
    · exact appendUint_small B n u h sv xs w hown hBw hlim
    · exact appendUint_big B n u (by omega) hu64 sv xs w hown hBw hlim htab
  have HH := hideIt H
  clear H hown htab
  go_enter Ybad.func7, Ybad.ntmps7
  go_wp2_with fail
  refine HH.out.mono ?_
  rintro e w' ⟨v', rfl, h1, h2, h3⟩
  go_wp2
  go_ret
  exact ⟨v', rfl, h1, h2, h3⟩

/-- The struct of the exchange. -/
def xch (key mode : ByteArray) (delta : Nat) : Obj := .cells #[.string key, .string mode, .int .u64 delta, .int .u64 0] 27

theorem Own.cell {B : Nat} {w0 w : World} {v : Value} {L : List Int} (h : Own B w0 w v L) {xb : Nat} {key mode : ByteArray} {delta : Nat} (hx : w0.heap[xb]? = some (xch key mode delta)) :
    w.cell? ⟨xb, 0, none⟩ = some (.string key) ∧ w.cell? ⟨xb, 1, none⟩ = some (.string mode) ∧ w.cell? ⟨xb, 2, none⟩ = some (.int .u64 delta) := by
  have h1 := h.2.2 xb _ hx (by simp) (by intro c fz e; cases e)
  unfold xch at h1
  exact ⟨cell_of_row w xb 0 _ 27 (0, 0) h1, cell_of_row w xb 1 _ 27 (0, 0) h1, cell_of_row w xb 2 _ 27 (0, 0) h1⟩

/-- What request appends. -/
def reqL (key mode : ByteArray) (delta : Nat) : List Int := [109, 97, 32] ++ sI key ++ [32, 77] ++ sI mode ++ [32, 68] ++ bI (Lib.decDigits delta) ++ [32, 118, 13, 10]

set_option maxHeartbeats 2000000 in
set_option maxRecDepth 100000 in
theorem request_any (B xb delta : Nat) (key mode : ByteArray) (hd : delta < 18446744073709551616) (sv : Value) (L : List Int) (w : World) (hown : w.ownsRow B 5 1 sv L.length (ic L)) (hBw : B ≤ w.heap.size)
    (hL : L.length ≤ 100000) (hk : key.size ≤ 100000) (hm : mode.size ≤ 100000) (hx : w.heap[xb]? = some (xch key mode delta)) (htab : Lib.TabBelow Ybad.prog B w powName .u64 Lib.pow10Tab) :
    Calls Ybad.prog 4 #[.pointer (some ⟨xb, 0, none⟩), sv] w fun e w' => ∃ v', e = .returned v' ∧ Own B w w' v' (L ++ reqL key mode delta) := by
  obtain ⟨i0, hi, hz0, hz1, hz2⟩ := info_parts Ybad.info5
  have h0 : Own B w w sv L := ⟨hown, Below.refl _ _, Lib.OthersKept.refl _ _ _⟩
  have HX := hideIt hx
  have HT := hideIt htab
  clear hown hx htab
  go_enter Ybad.func4, Ybad.ntmps4
  go_wp2_with (at_builtin; refine Lib.wpList_append_own_string _ rfl _ _ 22 9 rfl B 5 i0 Ybad.underlying22 Ybad.underlying9 hi hz0 hz1 hz2 _ _ _ rfl h0.1 ⟨#[109, 97, 32]⟩ rfl ?a1 ?a2 ?a3 ?_)
  case a1 => have hss : ((⟨#[109, 97, 32]⟩ : ByteArray)).size ≤ 3 := (by decide); unfold maxLen; omega
  case a2 => have hss : ((⟨#[109, 97, 32]⟩ : ByteArray)).size ≤ 3 := (by decide); omega
  case a3 => exact Nat.le_trans hBw h0.2.1.size
  intro v1 w1 hown1 hgrow1 _
  obtain ⟨L1, E1, l1, h1⟩ := h0.strx hBw ⟨#[109, 97, 32]⟩ 3 100000 (by decide) hL hown1 hgrow1
  clear h0 hown1 hgrow1
  obtain ⟨cc, _, _⟩ := h1.cell HX.out
  go_wp2_with (at_builtin; refine Lib.wpList_append_own_string _ rfl _ _ 22 9 rfl B 5 i0 Ybad.underlying22 Ybad.underlying9 hi hz0 hz1 hz2 _ _ _ rfl h1.1 key rfl ?b1 ?b2 ?b3 ?_)
  case b1 => have hss : ((key : ByteArray)).size ≤ 100000 := hk; unfold maxLen; omega
  case b2 => have hss : ((key : ByteArray)).size ≤ 100000 := hk; omega
  case b3 => exact Nat.le_trans hBw h1.2.1.size
  intro v2 w2 hown2 hgrow2 _
  obtain ⟨L2, E2, l2, h2⟩ := h1.strx hBw key 100000 100003 (hk) l1 hown2 hgrow2
  clear h1 hown2 hgrow2
  clear cc
  go_wp2_with (at_builtin; refine Lib.wpList_append_own_string _ rfl _ _ 22 9 rfl B 5 i0 Ybad.underlying22 Ybad.underlying9 hi hz0 hz1 hz2 _ _ _ rfl h2.1 ⟨#[32, 77]⟩ rfl ?d1 ?d2 ?d3 ?_)
  case d1 => have hss : ((⟨#[32, 77]⟩ : ByteArray)).size ≤ 2 := (by decide); unfold maxLen; omega
  case d2 => have hss : ((⟨#[32, 77]⟩ : ByteArray)).size ≤ 2 := (by decide); omega
  case d3 => exact Nat.le_trans hBw h2.2.1.size
  intro v3 w3 hown3 hgrow3 _
  obtain ⟨L3, E3, l3, h3⟩ := h2.strx hBw ⟨#[32, 77]⟩ 2 200003 (by decide) l2 hown3 hgrow3
  clear h2 hown3 hgrow3
  obtain ⟨_, cc, _⟩ := h3.cell HX.out
  go_wp2_with (at_builtin; refine Lib.wpList_append_own_string _ rfl _ _ 22 25 rfl B 5 i0 Ybad.underlying22 Ybad.underlying25 hi hz0 hz1 hz2 _ _ _ rfl h3.1 mode rfl ?e1 ?e2 ?e3 ?_)
  case e1 => have hss : ((mode : ByteArray)).size ≤ 100000 := hm; unfold maxLen; omega
  case e2 => have hss : ((mode : ByteArray)).size ≤ 100000 := hm; omega
  case e3 => exact Nat.le_trans hBw h3.2.1.size
  intro v4 w4 hown4 hgrow4 _
  obtain ⟨L4, E4, l4, h4⟩ := h3.strx hBw mode 100000 200005 (hm) l3 hown4 hgrow4
  clear h3 hown4 hgrow4
  clear cc
  go_wp2_with (at_builtin; refine Lib.wpList_append_own_string _ rfl _ _ 22 9 rfl B 5 i0 Ybad.underlying22 Ybad.underlying9 hi hz0 hz1 hz2 _ _ _ rfl h4.1 ⟨#[32, 68]⟩ rfl ?f1 ?f2 ?f3 ?_)
  case f1 => have hss : ((⟨#[32, 68]⟩ : ByteArray)).size ≤ 2 := (by decide); unfold maxLen; omega
  case f2 => have hss : ((⟨#[32, 68]⟩ : ByteArray)).size ≤ 2 := (by decide); omega
  case f3 => exact Nat.le_trans hBw h4.2.1.size
  intro v5 w5 hown5 hgrow5 _
  obtain ⟨L5, E5, l5, h5⟩ := h4.strx hBw ⟨#[32, 68]⟩ 2 300005 (by decide) l4 hown5 hgrow5
  clear h4 hown5 hgrow5
  obtain ⟨_, _, cc⟩ := h5.cell HX.out
  go_wp2_with fail
  refine (appendUint_any B _ delta hd v5 _ _ h5.1 (Nat.le_trans hBw h5.2.1.size) (by omega) (HT.out _ h5.2.1)).mono ?_
  rintro e w6 ⟨v6, rfl, hown6, hb6, hk6⟩
  obtain ⟨L6, E6, l6, h6⟩ := h5.digx hd l5 hown6 hb6 hk6
  clear h5 hown6 hb6 hk6 cc
  go_wp2_with (at_builtin; refine Lib.wpList_append_own_string _ rfl _ _ 22 9 rfl B 5 i0 Ybad.underlying22 Ybad.underlying9 hi hz0 hz1 hz2 _ _ _ rfl h6.1 ⟨#[32, 118, 13, 10]⟩ rfl ?g1 ?g2 ?g3 ?_)
  case g1 => have hss : (⟨#[32, 118, 13, 10]⟩ : ByteArray).size ≤ 4 := by decide
             unfold maxLen; omega
  case g2 => have hss : (⟨#[32, 118, 13, 10]⟩ : ByteArray).size ≤ 4 := by decide
             omega
  case g3 => exact Nat.le_trans hBw h6.2.1.size
  intro v7 w7 hown7 hgrow7 _
  have h7 := h6.str hBw ⟨#[32, 118, 13, 10]⟩ hown7 hgrow7
  clear h6 hown7 hgrow7
  go_wp2
  go_ret
  refine ⟨v7, rfl, ?_⟩
  have E : L ++ reqL key mode delta = L6 ++ sI ⟨#[32, 118, 13, 10]⟩ := by
    rw [E6.out, E5.out, E4.out, E3.out, E2.out, E1.out]
    simp [reqL, sI]
  rw [E]
  exact h7
end Go.Proofs.YbulkasdyDoor
