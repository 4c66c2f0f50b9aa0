/- What a member's round lays ahead of its loops. -/
import Derived.Test.YbulkasdyAll
namespace Go.Proofs.Ybulkasdy
open Go.RowKit Go.Maps Go.MuLone

/-- Four noughts. -/
def z4 : Array Value := #[.int .i64 0, .int .i64 0, .int .i64 0, .int .i64 0]
/-- Four times false. -/
def f4 : Array Value := #[.bool false, .bool false, .bool false, .bool false]

/-- The seven blocks. -/
def w7 (w : World) (c0 : Array Value) : World := ((((((w.alloc (.cells c0 27)).alloc (.cells z4 48)).alloc (.cells z4 48)).alloc (.cells f4 49)).alloc (.cells f4 49)).alloc (.map #[] 0)).alloc (.map #[] 0)

theorem w7_size (w : World) (c0 : Array Value) : (w7 w c0).heap.size = w.heap.size + 7 := by
  simp only [w7, World.size_alloc]

theorem w7_kx (w : World) (c0 : Array Value) : Kx (fun _ => False) w (w7 w c0) :=
  ((((((((Kx.refl _ w).alloc _).alloc _).alloc _).alloc _).alloc _).alloc _).alloc _)

theorem get_alloc (x : World) (o : Obj) (b : Nat) : (x.alloc o).heap[b]? = if b = x.heap.size then some o else x.heap[b]? := by
  show (x.heap.push o)[b]? = _
  rw [Array.getElem?_push]

theorem w7_0 (w : World) (c0 : Array Value) : (w7 w c0).heap[w.heap.size + 0]? = some (.cells c0 27 (0, 0)) := by
  unfold w7
  simp only [get_alloc, World.size_alloc]
  rw [if_neg (by omega)]
  rw [if_neg (by omega)]
  rw [if_neg (by omega)]
  rw [if_neg (by omega)]
  rw [if_neg (by omega)]
  rw [if_neg (by omega)]
  first | (rw [if_pos (by omega)]; done) | simp

theorem w7_1 (w : World) (c0 : Array Value) : (w7 w c0).heap[w.heap.size + 1]? = some (.cells z4 48 (0, 0)) := by
  unfold w7
  simp only [get_alloc, World.size_alloc]
  rw [if_neg (by omega)]
  rw [if_neg (by omega)]
  rw [if_neg (by omega)]
  rw [if_neg (by omega)]
  rw [if_neg (by omega)]
  first | (rw [if_pos (by omega)]; done) | simp

theorem w7_2 (w : World) (c0 : Array Value) : (w7 w c0).heap[w.heap.size + 2]? = some (.cells z4 48 (0, 0)) := by
  unfold w7
  simp only [get_alloc, World.size_alloc]
  rw [if_neg (by omega)]
  rw [if_neg (by omega)]
  rw [if_neg (by omega)]
  rw [if_neg (by omega)]
  first | (rw [if_pos (by omega)]; done) | simp

theorem w7_3 (w : World) (c0 : Array Value) : (w7 w c0).heap[w.heap.size + 3]? = some (.cells f4 49 (0, 0)) := by
  unfold w7
  simp only [get_alloc, World.size_alloc]
  rw [if_neg (by omega)]
  rw [if_neg (by omega)]
  rw [if_neg (by omega)]
  first | (rw [if_pos (by omega)]; done) | simp

theorem w7_4 (w : World) (c0 : Array Value) : (w7 w c0).heap[w.heap.size + 4]? = some (.cells f4 49 (0, 0)) := by
  unfold w7
  simp only [get_alloc, World.size_alloc]
  rw [if_neg (by omega)]
  rw [if_neg (by omega)]
  first | (rw [if_pos (by omega)]; done) | simp

theorem w7_5 (w : World) (c0 : Array Value) : (w7 w c0).heap[w.heap.size + 5]? = some (.map #[] 0) := by
  unfold w7
  simp only [get_alloc, World.size_alloc]
  rw [if_neg (by omega)]
  first | (rw [if_pos (by omega)]; done) | simp

theorem w7_6 (w : World) (c0 : Array Value) : (w7 w c0).heap[w.heap.size + 6]? = some (.map #[] 0) := by
  unfold w7
  simp only [get_alloc, World.size_alloc]
  first | (rw [if_pos (by omega)]; done) | simp

theorem mapIs_empty {w : World} {B : Nat} (h : w.heap[B]? = some (.map #[] 0)) : MapIs w B 0 (fun _ => 0) (fun _ => false) := by
  have hs := MapIs.start { w with heap := #[] }
  obtain ⟨D, ⟨es, cl, h1, h2⟩, h3⟩ := hs.ex
  have e : some (Obj.map #[] 0) = some (.map es cl) := by
    rw [← h1]
    exact (heap_alloc_new _ _).symm
  simp only [Option.some.injEq, Obj.map.injEq] at e
  obtain ⟨rfl, rfl⟩ := e
  exact ⟨D, ⟨_, _, h, h2⟩, h3⟩

theorem cnt_start {w : World} {B SC SP : Nat} (EK EN : Nat → Int) (h1 : w.heap[B]? = some (.map #[] 0)) (h2 : w.heap[SC]? = some (.cells z4 48 (0, 0))) (h3 : w.heap[SP]? = some (.cells f4 49 (0, 0))) (ne : B ≠ SC ∧ B ≠ SP ∧ SC ≠ SP) : CntAt w B SC SP 0 EK EN := by
  refine ⟨mapIs_empty h1, fun j hj => ?_, fun j hj => ?_, fun j => by simp [World.frozen?, h2], fun j => by simp [World.frozen?, h3], ne⟩
  · rw [cell_of_row _ _ _ _ _ _ h2]
    match j with
    | 0 | 1 | 2 | 3 => rfl
    | j + 4 => omega
  · rw [cell_of_row _ _ _ _ _ _ h3]
    match j with
    | 0 | 1 | 2 | 3 => rfl
    | j + 4 => omega
end Go.Proofs.Ybulkasdy
