/- newLagging (4). -/
import Derived.Test.YbulkasdyFin
namespace Go.Proofs.Ybulkasdy
open Go.RowKit Go.Maps Go.MuLone

theorem Yba.info57 : (Yba.prog.info? 57).map (fun i => (i.zero, i.size, i.bytes)) = some (some (.agg #[.map none, .int .i64 0, .map none, .int .i64 0]), 4, 32) := by kernel_rfl

set_option maxHeartbeats 1600000 in
set_option maxRecDepth 100000 in
theorem new4 (n : Nat) (w : World) (hn : n ≤ 256) :
    Calls Yba.prog 4 #[.int .i64 n] w fun e w' => e = .returned (.pointer (some ⟨w.heap.size + 1, 0, none⟩)) ∧
      ∃ cur : Array Value, cur.size = n * 4 ∧ w' = (w.alloc (.cells cur 57)).alloc (.cells #[.int .i32 0, .int .i32 0, .int .u32 0, .slice (some ⟨w.heap.size, 0, none⟩) n n, .chan none] 45) := by
  obtain ⟨i0, hi0, hz0, hz1, hz2⟩ := info_parts Yba.info57
  have hmk := run_make (P := Yba.prog) w 40 57 i0 _ Yba.underlying40 hi0 hz0 .i64 .i64 n n (by omega) (by omega) (by rw [hz2]; omega) (by omega)
  rw [hz1] at hmk
  have hb : ∀ W : World, (Instr.build 45 #[(2, (.slice (some ⟨w.heap.size, 0, none⟩) n n : Value))]).run Yba.prog W = .ok (.agg #[.int .i32 0, .int .i32 0, .int .u32 0, .slice (some ⟨w.heap.size, 0, none⟩) n n, .chan none]) W := by
    intro W
    exact run_build W 45 _ _ (by kernel_rfl)
  go_enter Yba.func4, Yba.ntmps4
  go_wp2_with fail
  go_ret
  exact ⟨rfl, _, size_madeCells _ _, rfl⟩
end Go.Proofs.Ybulkasdy
