/- What a member's round leaves. -/
import Derived.Test.YbulkasdyLaid
namespace Go.Proofs.Ybulkasdy
open Go.RowKit Go.Maps Go.MuLone

theorem cntTo_four (EK EN : Nat → Int) : ∀ k, cntTo EK EN k 4 = 0
  | 0 => rfl
  | k + 1 => by
    have h : ¬ 4 = (EK k % 4).toNat := by omega
    simp [cntTo, upd, h, cntTo_four EK EN k]

theorem prsTo_four (EK : Nat → Int) : ∀ k, prsTo EK k 4 = false
  | 0 => rfl
  | k + 1 => by
    have h : ¬ 4 = (EK k % 4).toNat := by omega
    simp [prsTo, upd, h, prsTo_four EK k]

/-- Whether the member lags, as the law reckons it. -/
def lagR (sf wf : Int) (flush : Bool) (sc wc : Nat → Int) (sp wp : Nat → Bool) (q : Nat → Int) (n : Nat) : Bool :=
  if decide (0 < sf) || decide (0 < wf) then true
  else if flush then anyTo (fun k => sp k || wp k) 4
  else anyTo (fun j => keyLag sc wc (q j)) n

theorem anyTo_congr {f g : Nat → Bool} {n : Nat} (h : ∀ k, k < n → f k = g k) : anyTo f n = anyTo g n := by
  induction n with
  | zero => rfl
  | succ n ih => rw [anyTo_succ, anyTo_succ, ih (fun k hk => h k (by omega)), h n (by omega)]

theorem lagR_eq (sf wf : Int) (flush : Bool) (sc wc : Nat → Int) (sp wp : Nat → Bool) (q : Nat → Int) (n : Nat) (hq : ∀ k, 0 ≤ q k) (h1 : sc 4 = 0) (h2 : wc 4 = 0) (h3 : sp 4 = false) (h4 : wp 4 = false) : lagR sf wf flush sc wc sp wp q n = lagV sf wf flush sc wc sp wp q n := by
  unfold lagR lagV
  have e1 : anyTo (fun k => sp k || wp k) 5 = anyTo (fun k => sp k || wp k) 4 := by rw [anyTo_succ]; simp [h3, h4]
  have e2 : anyTo (fun j => keyLag sc wc (q j)) n = anyTo (fun j => decide (0 < sc (q j % 5).toNat) || decide (0 < wc (q j % 5).toNat)) n := anyTo_congr fun k _ => by
    by_cases h : q k % 5 < 4
    · simp [keyLag, h]
    · have h5 : (q k % 5).toNat = 4 := by have := hq k; omega
      simp [keyLag, h, h5, h1, h2]
  rw [e1, e2]

/-- What a member's round leaves. -/
structure RoundEnd (w w' : World) (MB EX n i : Nat) (sf wf : Int) (sc wc : Nat → Int) (sp wp : Nat → Bool) (lag : Bool) : Prop where
  kx : Kx (fun b => b = MB ∨ b = EX) w w'
  mem : MemAt w' MB (4 * i) sf wf sc wc sp wp
  ex : w'.cell? ⟨EX, i, none⟩ = some (.bool lag)
  exo : ∀ j, j ≠ i → w'.cell? ⟨EX, j, none⟩ = w.cell? ⟨EX, j, none⟩
  mbo : ∀ k, (k < 4 * i ∨ 4 * i + 4 ≤ k) → w'.cell? ⟨MB, k, none⟩ = w.cell? ⟨MB, k, none⟩
  row : ∃ cur : Array Value, w'.heap[MB]? = some (.cells cur 57 (0, 0)) ∧ cur.size = n * 4
  erow : ∃ cur : Array Value, w'.heap[EX]? = some (.cells cur 4 (0, 0)) ∧ cur.size = n
end Go.Proofs.Ybulkasdy
