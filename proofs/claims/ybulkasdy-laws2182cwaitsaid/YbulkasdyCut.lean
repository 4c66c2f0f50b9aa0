/- Pieces of the law's code; the counts of a list of entries. -/
import Derived.Test.YbulkasdyWait
namespace Go.Proofs.Ybulkasdy
open Go.RowKit Go.Maps Go.MuLone

/-- The block of that number. -/
def findBlk (id : Nat) : Code → Option Code
  | .block i c => if i = id then some (.block i c) else findBlk id c
  | .seq a b => match findBlk id a with
    | some c => some c
    | none => findBlk id b
  | .loop c => findBlk id c
  | .cond _ a b => match findBlk id a with
    | some c => some c
    | none => findBlk id b
  | _ => none

/-- What lies in a block. -/
def inBlk : Code → Code
  | .block _ c => c
  | c => c

noncomputable def blk4 : Code := inBlk ((Yba.f3.body.bind (findBlk 4)).getD .skip)
noncomputable def blk6 : Code := inBlk ((Yba.f3.body.bind (findBlk 6)).getD .skip)

/-- The counts behind k entries. -/
def cntTo (EK EN : Nat → Int) : Nat → Nat → Int
  | 0 => fun _ => 0
  | k + 1 => upd (cntTo EK EN k) (EK k % 4).toNat (EN k)

/-- The keys behind k entries. -/
def prsTo (EK : Nat → Int) : Nat → Nat → Bool
  | 0 => fun _ => false
  | k + 1 => upd (prsTo EK k) (EK k % 4).toNat true

/-- A map and its two arrays behind k entries. -/
structure CntAt (w : World) (B SC SP k : Nat) (EK EN : Nat → Int) : Prop where
  map : MapIs w B k (cntTo EK EN k) (prsTo EK k)
  sc : ∀ j, j < 4 → w.cell? ⟨SC, j, none⟩ = some (.int .i64 (cntTo EK EN k j))
  sp : ∀ j, j < 4 → w.cell? ⟨SP, j, none⟩ = some (.bool (prsTo EK k j))
  fsc : ∀ j, w.frozen? ⟨SC, j, none⟩ = false
  fsp : ∀ j, w.frozen? ⟨SP, j, none⟩ = false
  ne : B ≠ SC ∧ B ≠ SP ∧ SC ≠ SP

theorem CntAt.step {wm : World} {B SC SP k j : Nat} {EK EN : Nat → Int} (hjt : (EK k % 4).toNat = j) (hj4 : j < 4) (ne : B ≠ SC ∧ B ≠ SP ∧ SC ≠ SP)
    (h1 : ∀ i, i < 4 → wm.cell? ⟨SC, i, none⟩ = some (.int .i64 (cntTo EK EN k i))) (h2 : ∀ i, i < 4 → wm.cell? ⟨SP, i, none⟩ = some (.bool (prsTo EK k i))) (h3 : ∀ i, wm.frozen? ⟨SC, i, none⟩ = false) (h4 : ∀ i, wm.frozen? ⟨SP, i, none⟩ = false)
    (hm : MapIs wm B (k + 1) (upd (cntTo EK EN k) j (EN k)) (upd (prsTo EK k) j true)) : CntAt ((wm.setCell ⟨SC, j, none⟩ (.int .i64 (EN k))).setCell ⟨SP, j, none⟩ (.bool true)) B SC SP (k + 1) EK EN := by
  subst hjt
  refine ⟨?_, fun i hi => ?_, fun i hi => ?_, fun i => ?_, fun i => ?_, ne⟩
  · refine hm.of_block ?_
    rw [Below.heap_setCell _ _ _ _ ne.2.1, Below.heap_setCell _ _ _ _ ne.1]
  · rw [World.cell?_setCell_other _ _ _ _ (by intro e; injection e with e1; exact ne.2.2 e1.symm)]
    by_cases e : i = (EK k % 4).toNat
    · subst e
      rw [World.cell?_setCell_same _ _ _ (h1 _ hi)]
      simp [cntTo, upd]
    · rw [World.cell?_setCell_other _ _ _ _ (by intro h; injection h with _ h2; exact e h2.symm), h1 i hi]
      simp [cntTo, upd, e]
  · have g : ∀ i, i < 4 → (wm.setCell ⟨SC, (EK k % 4).toNat, none⟩ (.int .i64 (EN k))).cell? ⟨SP, i, none⟩ = some (.bool (prsTo EK k i)) := fun i hi => by
      rw [World.cell?_setCell_other _ _ _ _ (by intro e; injection e with e1; exact ne.2.2 e1)]
      exact h2 i hi
    by_cases e : i = (EK k % 4).toNat
    · subst e
      rw [World.cell?_setCell_same _ _ _ (g _ hi)]
      simp [prsTo, upd]
    · rw [World.cell?_setCell_other _ _ _ _ (by intro h; injection h with _ h2; exact e h2.symm), g i hi]
      simp [prsTo, upd, e]
  · rw [World.frozen?_setCell, World.frozen?_setCell]
    exact h3 i
  · rw [World.frozen?_setCell, World.frozen?_setCell]
    exact h4 i
end Go.Proofs.Ybulkasdy
