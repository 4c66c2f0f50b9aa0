/- Small walks: the atomics (5, 13), the table (6), Background (7), errors.New (8), TryLock (11), Done (60), Err (61). -/
import Derived.Test.YbulkasdyRows
import Derived.Test.YbulkasdyLocks
import Derived.Conc.MuLone
import Derived.WalkKit
import Derived.Laws.LoneSync
import Derived.Deep.Light
namespace Go.Proofs.Ybulkasdy
open Go.RowKit Go.MuLone

theorem store5 (a : Addr) (u : Value) (y : Int) (w : World) (hc : w.cell? a = some u) (hz : w.frozen? a = false) :
    Calls Yba.prog 5 #[.pointer (some a), .int .i32 y] w fun e w' => e = .returned (.tuple #[]) ∧ w' = w.setCell a (.int .i32 y) := by
  have hs := run_call_store (P := Yba.prog) Yba.func15 (by kernel_rfl) (by kernel_rfl) (by kernel_rfl) (by kernel_rfl) (k := .i32) (y := y) hc hz
  go_enter Yba.func5, Yba.ntmps5
  go_wp2
  go_end0
  exact ⟨rfl, rfl⟩

theorem load13 (a : Addr) (y : Int) (w : World) (hc : w.cell? a = some (.int .i32 y)) :
    Calls Yba.prog 13 #[.pointer (some a)] w fun e w' => e = .returned (.int .i32 y) ∧ w' = w := by
  have hs := run_call_load (P := Yba.prog) Yba.func23 (by kernel_rfl) (by kernel_rfl) (by kernel_rfl) .i32 (by kernel_rfl) hc
  go_enter Yba.func13, Yba.ntmps13
  go_wp2
  go_ret
  exact ⟨rfl, rfl⟩

/-- The table's string. -/
def tbl (i : Int) : ByteArray := ⟨#[if i % 5 = 0 then 97 else if i % 5 = 1 then 98 else if i % 5 = 2 then 99 else if i % 5 = 3 then 100 else 101]⟩

theorem tbl_any (i : Int) (h0 : 0 ≤ i) (h1 : i ≤ 255) (w : World) :
    Calls Yba.prog 6 #[.int .u8 i] w fun e w' => e = .returned (.string (tbl i)) ∧ w' = w := by
  go_enter Yba.func6, Yba.ntmps6
  go_wp2
  all_goals (go_ret; refine ⟨?_, rfl⟩; go_light; simp_all [tbl])

theorem back7 (w : World) : Calls Yba.prog 7 #[] w fun e w' => e = .returned (.iface 80 (.agg #[])) ∧ w' = w := by
  go_enter Yba.func7, Yba.ntmps7
  go_wp2
  go_ret
  exact ⟨rfl, rfl⟩

theorem err8 (s : ByteArray) (w : World) : Calls Yba.prog 8 #[.string s] w fun e w' => e = .returned (.iface 81 (.pointer (some ⟨w.heap.size, 0, none⟩))) ∧ w' = w.alloc (.cells #[.string s] 83) := by
  go_enter Yba.func8, Yba.ntmps8
  go_wp2
  go_ret
  exact ⟨rfl, rfl⟩

theorem done60 (b : Nat) (c : Value) (w : World) (h : w.cell? ⟨b, 1, none⟩ = some c) : Calls Yba.prog 60 #[.pointer (some ⟨b, 0, none⟩)] w fun e w' => e = .returned c ∧ w' = w := by
  go_enter Yba.func60, Yba.ntmps60
  go_wp2
  go_ret
  exact ⟨rfl, rfl⟩

theorem err61 (b : Nat) (c : Value) (w : World) (h : w.cell? ⟨b, 2, none⟩ = some c) : Calls Yba.prog 61 #[.pointer (some ⟨b, 0, none⟩)] w fun e w' => e = .returned c ∧ w' = w := by
  go_enter Yba.func61, Yba.ntmps61
  go_wp2
  go_ret
  exact ⟨rfl, rfl⟩

set_option maxHeartbeats 800000 in
set_option maxRecDepth 100000 in
theorem try11 (a : Addr) (w : World) (hc : w.cell? a = some (.int .i32 0)) (hz : w.frozen? a = false) :
    Calls Yba.prog 11 #[.pointer (some a)] w fun e w' => e = .returned (.bool true) ∧ w' = w.setCell a (.int .i32 1) := by
  have hd := disable Yba.muLib
  have he := enable Yba.muLib
  have hq := acquire Yba.muLib
  have hcas := run_call_cas_hit (P := Yba.prog) Yba.func30 (by kernel_rfl) (by kernel_rfl) (by kernel_rfl) .i32 (by kernel_rfl) (y := 1) hc hz
  have hcv := run_convert_to_unsafe (P := Yba.prog) (src := 97) (dst := 100) (w := w.setCell a (.int .i32 1)) (a := a) Yba.muLib.underlying_tPIMutex Yba.muLib.underlying_tUP Yba.muLib.room_tIMutex (World.cell?_setCell_same _ _ _ hc)
  go_enter Yba.func11, Yba.ntmps11
  go_wp2
  go_ret
  exact ⟨rfl, rfl⟩
end Go.Proofs.Ybulkasdy
