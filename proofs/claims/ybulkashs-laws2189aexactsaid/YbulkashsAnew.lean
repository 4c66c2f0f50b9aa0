/- The walk of zzs2189anew (5). -/
import Derived.Test.YbulkashsNew
namespace Go.Proofs.Ybulkashs
open Go.RowKit Go.Sort

/-- The settings' zero. -/
def stZ : Array Value := #[.int .i64 0, .int .i64 0, .int .i64 0, .int .i64 0, .int .i64 0, .int .i64 0, .int .i64 0, .bool false, .bool false, .bool false, .bool false, .bool false, .int .u64 0, .int .u64 0, .pointer none, .int .u16 0, .int .i64 0]

theorem range_of_row {w : World} {g : Nat} {cs : Array Value} {t : TypeId} (hg : w.heap[g]? = some (.cells cs t (0, 0))) : w.rangeAt g 0 cs.toList := fun j v hj => by
  rw [Nat.zero_add, cell_of_row w g j cs t (0, 0) hg]
  simpa using hj

set_option maxHeartbeats 2000000 in
set_option maxRecDepth 100000 in
theorem newSaid : NewSaid := by
  intro p b a w
  have HB := hideIt (st_built p)
  have HR : Hid (((w.alloc (.cells stZ 50)).setRow w.heap.size (stA p)).heap[w.heap.size]? = some (.cells (stA p) 50 (0, 0))) := setRow_heap _ _ _ _ _ _ (heap_alloc_new _ _)
  go_enter Yba.func5, Yba.ntmps5
  go_wp2_with (first
    | (refine wpList_buildTo rfl 50 #[(0, .const (.int .i64 8)), (1, .const (.int .i64 1024)), (2, .const (.int .i64 64)), (5, .const (.int .i64 1024)), (12, .const (.int .i64 1)), (7, .tmp 9)] rfl _ rfl (stA p) (built_eq HB.out (by kernel_rfl)) ?_)
    | (refine wpList_store_row rfl 50 (.tmp 7) (.tmp 10) rfl w.heap.size (stA p) rfl rfl 50 _ (heap_alloc_new _ _) Yba.size50 rfl (by kernel_rfl) ?_)
    | (refine wpList_load50 rfl (.tmp 7) rfl w.heap.size 0 rfl (stA p).toList rfl (range_of_row HR.out) ?_))
  obtain ⟨W0, hW0⟩ : ∃ W0, W0 = (w.alloc (.cells stZ 50)).setRow w.heap.size (stA p) := ⟨_, rfl⟩
  change Calls _ _ _ (((w.alloc (.cells stZ 50)).setRow w.heap.size (stA p)).alloc (.cells #[.int .i64 0] 108)) _
  rw [← hW0]
  have hs0 : W0.heap.size = w.heap.size + 1 := by rw [hW0]; simp [World.setRow]
  have hb0 : Below w.heap.size w W0 := by rw [hW0]; exact below_setRow_new (below_alloc_self w _) (Nat.le_refl _) _
  have hrow : (W0.alloc (.cells #[.int .i64 0] 108)).heap[w.heap.size + 1]? = some (.cells #[.int .i64 0] 108 (0, 0)) := by rw [← hs0]; exact heap_alloc_new W0 _
  have hbW : Below w.heap.size w (W0.alloc (.cells #[.int .i64 0] 108)) := hb0.alloc (by omega) _
  have hsW : (W0.alloc (.cells #[.int .i64 0] 108)).heap.size = w.heap.size + 2 := by rw [World.size_alloc, hs0]
  refine (newSeq_any p (w.heap.size + 1) (W0.alloc (.cells #[.int .i64 0] 108)) (by omega) (by rw [cell_of_row _ _ _ _ _ _ hrow]; rfl) (by simp [World.frozen?, hrow])).mono ?_
  rintro e w1 ⟨m, sb, rfl, hm, hne, hr, ⟨v37, h37⟩, ⟨v38, h38⟩, hf, h198, hsb, hk⟩
  have f37 := hf 37
  have f38 := hf 38
  have HRR := hideIt hr
  have HS := hideIt hsb
  have H198 := hideIt h198
  have HK := hideIt hk
  have HBW := hideIt hbW
  clear hr hsb h198 hk hbW hrow hb0 hW0 hf HR HB
  go_wp2_with fail
  go_ret
  refine ⟨m, sb, (stA p).toList, rfl, st_isSet p, ⟨fun j v hj => ?_, ?_, ?_, ?_, ?_⟩, ?_⟩
  · have hl := (List.getElem?_eq_some_iff.1 hj).1
    simp [stA] at hl
    rw [World.cell?_setCell_other _ _ _ _ (by intro e; injection e; omega), World.cell?_setCell_other _ _ _ _ (by intro e; injection e; omega)]
    exact HRR.out j v hj
  · rw [World.cell?_setCell_other _ _ _ _ (by simp)]
    exact World.cell?_setCell_same _ _ _ h37
  · exact World.cell?_setCell_same _ _ _ (show (w1.setCell ⟨m, 37, none⟩ _).cell? ⟨m, 38, none⟩ = some v38 by rw [World.cell?_setCell_other _ _ _ _ (by simp)]; exact h38)
  · rw [World.cell?_setCell_other _ _ _ _ (by simp), World.cell?_setCell_other _ _ _ _ (by simp)]
    exact H198.out
  · rw [World.cell?_setCell_other _ _ _ _ (by simp), World.cell?_setCell_other _ _ _ _ (by simp)]
    exact HS.out
  · have hz := HK.out.size
    refine ⟨HK.out.os.trans HBW.out.os, HK.out.tape.trans HBW.out.tape, HK.out.output.trans HBW.out.output, ?_, fun k hk => ?_⟩
    · rw [World.size_setCell, World.size_setCell]
      omega
    · rw [Below.heap_setCell _ _ _ _ (show k ≠ m by omega), Below.heap_setCell _ _ _ _ (show k ≠ m by omega), HK.out.block k (by omega) (by omega)]
      exact HBW.out.block k hk
end Go.Proofs.Ybulkashs
