/- The worlds of a round's end. -/
import Derived.Test.YbulkasdyTail
namespace Go.Proofs.Ybulkasdy
open Go.RowKit Go.Maps Go.MuLone

/-- Four cells laid. -/
def put4 (w : World) (MB o : Nat) (v0 v1 v2 v3 : Value) : World := (((w.setCell ⟨MB, o, none⟩ v0).setCell ⟨MB, o + 1, none⟩ v1).setCell ⟨MB, o + 2, none⟩ v2).setCell ⟨MB, o + 3, none⟩ v3

theorem put4_kx (w : World) (MB o : Nat) (v0 v1 v2 v3 : Value) : Kx (fun b => b = MB) w (put4 w MB o v0 v1 v2 v3) :=
  ((((Kx.refl (fun b => b = MB) w).setCell ⟨MB, o, none⟩ v0 (fun _ => rfl)).setCell ⟨MB, o + 1, none⟩ v1 (fun _ => rfl)).setCell ⟨MB, o + 2, none⟩ v2 (fun _ => rfl)).setCell ⟨MB, o + 3, none⟩ v3 (fun _ => rfl)

theorem put4_row {w : World} {MB : Nat} {cur : Array Value} {t : TypeId} (o : Nat) (v0 v1 v2 v3 : Value) (h : w.heap[MB]? = some (.cells cur t (0, 0))) :
    (put4 w MB o v0 v1 v2 v3).heap[MB]? = some (.cells ((((cur.setIfInBounds o v0).setIfInBounds (o + 1) v1).setIfInBounds (o + 2) v2).setIfInBounds (o + 3) v3) t (0, 0)) :=
  heap_setCell_same _ _ _ _ _ _ (heap_setCell_same _ _ _ _ _ _ (heap_setCell_same _ _ _ _ _ _ (heap_setCell_same _ _ _ _ _ _ h)))

theorem round_end {w w3 : World} {MB EX n i B1 B2 m m' : Nat} {sf wf : Int} {sc wc : Nat → Int} {sp wp : Nat → Bool} {cur ecur : Array Value} (lag : Bool)
    (k3 : Kx (fun _ => False) w w3) (m1 : MapIs w3 B1 m sc sp) (m2 : MapIs w3 B2 m' wc wp) (hr : w3.heap[MB]? = some (.cells cur 57 (0, 0))) (hs : cur.size = n * 4) (er : w3.heap[EX]? = some (.cells ecur 4 (0, 0))) (es : ecur.size = n) (hi : i < n)
    (ne : MB ≠ EX) (n1 : B1 ≠ MB ∧ B1 ≠ EX) (n2 : B2 ≠ MB ∧ B2 ≠ EX) (lM : MB < w.heap.size) (lE : EX < w.heap.size) :
    RoundEnd w ((put4 w3.drew MB (i * 4) (.map (some B1)) (.int .i64 sf) (.map (some B2)) (.int .i64 wf)).setCell ⟨EX, i, none⟩ (.bool lag)) MB EX n i sf wf sc wc sp wp lag := by
  have hr' : w3.drew.heap[MB]? = some (.cells cur 57 (0, 0)) := hr
  have er' : w3.drew.heap[EX]? = some (.cells ecur 4 (0, 0)) := er
  have kp := put4_kx w3.drew MB (i * 4) (.map (some B1)) (.int .i64 sf) (.map (some B2)) (.int .i64 wf)
  have rp := put4_row (i * 4) (.map (some B1)) (.int .i64 sf) (.map (some B2)) (.int .i64 wf) hr'
  obtain ⟨w4, hw4⟩ : ∃ w4, w4 = put4 w3.drew MB (i * 4) (.map (some B1)) (.int .i64 sf) (.map (some B2)) (.int .i64 wf) := ⟨_, rfl⟩
  rw [← hw4] at kp rp ⊢
  have l3 : w3.drew.heap.size = w3.heap.size := rfl
  have er4 : w4.heap[EX]? = some (.cells ecur 4 (0, 0)) := (kp.block EX (by have := k3.size; omega) (fun e => ne e.symm)).trans er'
  have hM : ∀ b, b ≠ EX → (w4.setCell ⟨EX, i, none⟩ (.bool lag)).heap[b]? = w4.heap[b]? := fun b hb => Below.heap_setCell _ _ _ _ hb
  have rp' := (hM MB ne).trans rp
  have rc : ∀ k, (w4.setCell ⟨EX, i, none⟩ (.bool lag)).cell? ⟨MB, k, none⟩ = _ := fun k => cell_of_row _ _ k _ _ _ rp'
  have mp : ∀ {B m : Nat} {sc : Nat → Int} {sp : Nat → Bool}, MapIs w3 B m sc sp → B ≠ MB ∧ B ≠ EX → MapIs (w4.setCell ⟨EX, i, none⟩ (.bool lag)) B m sc sp := fun h hb =>
    h.of_block (((hM _ hb.2).trans (kp.block _ (by have := h.lt; rw [l3]; exact this) hb.1)))
  have e4 : 4 * i = i * 4 := Nat.mul_comm _ _
  refine ⟨?_, ⟨⟨B1, B2, m, m', ?_, ?_, mp m1 n1, mp m2 n2⟩, ?_, ?_⟩, ?_, fun j hj => ?_, fun k hk => ?_, ⟨_, rp', by simp; exact hs⟩, ⟨_, heap_setCell_same _ _ _ _ _ _ er4, by simp; exact es⟩⟩
  · exact (((k3.mono (fun _ _ h => h.elim)).drew).trans kp (fun b _ h => .inl h)).setCell ⟨EX, i, none⟩ _ (fun _ => .inr rfl)
  · rw [rc, e4]; simp [Array.getElem?_setIfInBounds]; omega
  · rw [rc, e4]; simp [Array.getElem?_setIfInBounds]; omega
  · rw [rc, e4]; simp [Array.getElem?_setIfInBounds]; omega
  · rw [rc, e4]; simp [Array.getElem?_setIfInBounds]; omega
  · exact World.cell?_setCell_same _ _ _ ((cell_of_row w4 EX i _ _ _ er4).trans (Array.getElem?_eq_getElem (by omega)))
  · rw [World.cell?_setCell_other _ _ _ _ (by intro e; injection e with _ e; exact hj e.symm), World.cell?_of_block (a := ⟨EX, j, none⟩) (er4.trans er.symm)]
    exact k3.cell lE (fun h => h)
  · rw [rc, Array.getElem?_setIfInBounds_ne (by omega), Array.getElem?_setIfInBounds_ne (by omega), Array.getElem?_setIfInBounds_ne (by omega), Array.getElem?_setIfInBounds_ne (by omega), ← k3.cell (a := ⟨MB, k, none⟩) lM (fun h => h), cell_of_row _ _ _ _ _ _ hr]
end Go.Proofs.Ybulkasdy
