/- The walk of deliver (16). -/
import Derived.Test.YbulkashsDel
namespace Go.Proofs.Ybulkashs
open Go.RowKit Go.Sort

/-- The event as it is handed out. -/
def evB (ib : Nat) : Array Value := #[.int .u64 1, .int .u8 2, .int .u64 0, .slice none 0 0, .int .i64 1, .int .u64 0, .int .i64 0, .int .u64 0, .int .u64 0, .slice (some ⟨ib, 0, none⟩) 1 1, .bool false]

/-- What the handing out reads. -/
def HS (m ob N ib : Nat) (W : World) : Prop :=
  W.cell? ⟨m, 41, none⟩ = some (.slice none 0 0) ∧ W.cell? ⟨m, 0, none⟩ = some (.iface 106 (.pointer (some ⟨ob, 0, none⟩))) ∧ W.heap[N]? = some (.cells (evB ib) 121 (0, 0))

theorem Yba.isRow121 : ∃ d, Yba.prog.underlying 121 = some d ∧ d.isRow = true := ⟨_, Yba.underlying121, rfl⟩

theorem run_load_op {a : Act} {o : Oper} {w : World} (ty : TypeId) (x : Operand) (ho : o.op = .load ty x) (g : Nat) (hx : a.eval x = .pointer (some ⟨g, 0, none⟩)) (t : TypeId) (cs : Array Value) (hg : w.heap[g]? = some (.cells cs t (0, 0)))
    (hr : ∃ d, Yba.prog.underlying ty = some d ∧ d.isRow = true) (hi : (Yba.prog.info? ty).map (·.size) = some cs.size) : (execOp a.eval o).run Yba.prog w = .ok (.value (.agg cs)) w := by
  obtain ⟨d, hu, hd⟩ := hr
  have hra : w.rangeAt g 0 cs.toList := fun j v hj => by
    rw [Nat.zero_add, cell_of_row w g j cs t (0, 0) hg]
    simpa using hj
  have h := run_loadAt_mid (P := Yba.prog) w g 0 ty cs.toList d hra hu hd (by simpa using hi)
  unfold execOp
  simp only [ho, hx, h, Sem.run_bind, Result.andThen_ok]
  rfl

set_option maxHeartbeats 2000000 in
set_option maxRecDepth 100000 in
theorem deliver_any (m db ob ib : Nat) (w : World) (hm : m < w.heap.size) (hd : db < w.heap.size) (hob : ob < w.heap.size) (hmo : m ≠ ob)
    (m176 : w.cell? ⟨m, 176, none⟩ = some (.bool false)) (m42 : w.cell? ⟨m, 42, none⟩ = some (.int .i64 1)) (m43 : w.cell? ⟨m, 43, none⟩ = some (.int .u64 0)) (m7 : w.cell? ⟨m, 7, none⟩ = some (.int .i64 0))
    (m8 : w.cell? ⟨m, 8, none⟩ = some (.int .u64 0)) (m4 : w.cell? ⟨m, 4, none⟩ = some (.int .u64 0)) (m41 : w.cell? ⟨m, 41, none⟩ = some (.slice none 0 0)) (m186 : w.cell? ⟨m, 186, none⟩ = some (.map none))
    (m0 : w.cell? ⟨m, 0, none⟩ = some (.iface 106 (.pointer (some ⟨ob, 0, none⟩))))
    (d0 : w.cell? ⟨db, 0, none⟩ = some (.int .u8 8)) (d4 : w.cell? ⟨db, 4, none⟩ = some (.int .u64 1)) (d6 : w.cell? ⟨db, 6, none⟩ = some (.int .u64 0))
    (o0 : w.cell? ⟨ob, 0, none⟩ = some (.int .i64 0)) (of : w.frozen? ⟨ob, 0, none⟩ = false) :
    Calls Yba.prog 16 #[.pointer (some ⟨m, 0, none⟩), .pointer (some ⟨db, 0, none⟩), .slice (some ⟨ib, 0, none⟩) 1 1] w fun e w' => e = .returned (.tuple #[]) ∧ KeptO ob w w' := by
  have hS : DS m db w.drew := ⟨m42, m43, m7, m8, m4, d0, d4, d6⟩
  go_enter Yba.func16, Yba.ntmps16
  go_wp2
  go_cut [6] from 11 to 50 (fun s w' => ∃ N, s = .pointer (some ⟨N, 0, none⟩) ∧ w.heap.size ≤ N ∧ w'.heap[N]? = some (.cells (evA ib) 121 (0, 0)) ∧ Below w.heap.size w w')
  case first =>
    refine wp_region_held (S := DS m db) (by kernel_rfl) ?_
    refine takeV 0 11 (.pointer (some ⟨db, 0, none⟩)) rfl rfl (by kernel_rfl) (by kernel_rfl) (by kernel_rfl) (fun _ _ _ h => h) (by kernel_rfl) (by intro W _; go_simp) hS ?_
    refine takeV 1 12 (.pointer (some ⟨db, 0, none⟩)) rfl rfl (by kernel_rfl) (by kernel_rfl) (by kernel_rfl) (fun _ _ _ h => h) (by kernel_rfl) (by intro W _; go_simp) hS ?_
    refine takeV 2 13 (.pointer (some ⟨db, 4, none⟩)) rfl rfl (by kernel_rfl) (by kernel_rfl) (by kernel_rfl) (fun _ _ _ h => h) (by kernel_rfl) (by intro W _; go_simp) hS ?_
    refine takeV 3 14 (.int .u64 1) rfl rfl (by kernel_rfl) (by kernel_rfl) (by kernel_rfl) (fun _ _ _ h => h) (by kernel_rfl) (by intro W hW; obtain ⟨s1, s2, s3, s4, s5, s6, s7, s8⟩ := hW; go_simp) hS ?_
    refine takeV 4 15 (.pointer (some ⟨db, 0, none⟩)) rfl rfl (by kernel_rfl) (by kernel_rfl) (by kernel_rfl) (fun _ _ _ h => h) (by kernel_rfl) (by intro W _; go_simp) hS ?_
    refine takeV 5 16 (.pointer (some ⟨db, 0, none⟩)) rfl rfl (by kernel_rfl) (by kernel_rfl) (by kernel_rfl) (fun _ _ _ h => h) (by kernel_rfl) (by intro W _; go_simp) hS ?_
    refine takeV 6 17 (.pointer (some ⟨db, 6, none⟩)) rfl rfl (by kernel_rfl) (by kernel_rfl) (by kernel_rfl) (fun _ _ _ h => h) (by kernel_rfl) (by intro W _; go_simp) hS ?_
    refine takeV 7 18 (.int .u64 0) rfl rfl (by kernel_rfl) (by kernel_rfl) (by kernel_rfl) (fun _ _ _ h => h) (by kernel_rfl) (by intro W hW; obtain ⟨s1, s2, s3, s4, s5, s6, s7, s8⟩ := hW; go_simp) hS ?_
    refine takeV 8 19 (.pointer (some ⟨m, 0, none⟩)) rfl rfl (by kernel_rfl) (by kernel_rfl) (by kernel_rfl) (fun _ _ _ h => h) (by kernel_rfl) (by intro W _; go_simp) hS ?_
    refine takeV 9 20 (.pointer (some ⟨m, 0, none⟩)) rfl rfl (by kernel_rfl) (by kernel_rfl) (by kernel_rfl) (fun _ _ _ h => h) (by kernel_rfl) (by intro W _; go_simp) hS ?_
    refine takeV 10 21 (.pointer (some ⟨m, 42, none⟩)) rfl rfl (by kernel_rfl) (by kernel_rfl) (by kernel_rfl) (fun _ _ _ h => h) (by kernel_rfl) (by intro W _; go_simp) hS ?_
    refine takeV 11 22 (.int .i64 1) rfl rfl (by kernel_rfl) (by kernel_rfl) (by kernel_rfl) (fun _ _ _ h => h) (by kernel_rfl) (by intro W hW; obtain ⟨s1, s2, s3, s4, s5, s6, s7, s8⟩ := hW; go_simp) hS ?_
    refine takeV 12 23 (.pointer (some ⟨m, 0, none⟩)) rfl rfl (by kernel_rfl) (by kernel_rfl) (by kernel_rfl) (fun _ _ _ h => h) (by kernel_rfl) (by intro W _; go_simp) hS ?_
    refine takeV 13 24 (.pointer (some ⟨m, 0, none⟩)) rfl rfl (by kernel_rfl) (by kernel_rfl) (by kernel_rfl) (fun _ _ _ h => h) (by kernel_rfl) (by intro W _; go_simp) hS ?_
    refine takeV 14 25 (.pointer (some ⟨m, 43, none⟩)) rfl rfl (by kernel_rfl) (by kernel_rfl) (by kernel_rfl) (fun _ _ _ h => h) (by kernel_rfl) (by intro W _; go_simp) hS ?_
    refine takeV 15 26 (.int .u64 0) rfl rfl (by kernel_rfl) (by kernel_rfl) (by kernel_rfl) (fun _ _ _ h => h) (by kernel_rfl) (by intro W hW; obtain ⟨s1, s2, s3, s4, s5, s6, s7, s8⟩ := hW; go_simp) hS ?_
    refine takeV 16 27 (.pointer (some ⟨m, 0, none⟩)) rfl rfl (by kernel_rfl) (by kernel_rfl) (by kernel_rfl) (fun _ _ _ h => h) (by kernel_rfl) (by intro W _; go_simp) hS ?_
    refine takeV 17 28 (.pointer (some ⟨m, 0, none⟩)) rfl rfl (by kernel_rfl) (by kernel_rfl) (by kernel_rfl) (fun _ _ _ h => h) (by kernel_rfl) (by intro W _; go_simp) hS ?_
    refine takeV 18 29 (.pointer (some ⟨m, 7, none⟩)) rfl rfl (by kernel_rfl) (by kernel_rfl) (by kernel_rfl) (fun _ _ _ h => h) (by kernel_rfl) (by intro W _; go_simp) hS ?_
    refine takeV 19 30 (.int .i64 0) rfl rfl (by kernel_rfl) (by kernel_rfl) (by kernel_rfl) (fun _ _ _ h => h) (by kernel_rfl) (by intro W hW; obtain ⟨s1, s2, s3, s4, s5, s6, s7, s8⟩ := hW; go_simp) hS ?_
    refine takeV 20 31 (.pointer (some ⟨m, 0, none⟩)) rfl rfl (by kernel_rfl) (by kernel_rfl) (by kernel_rfl) (fun _ _ _ h => h) (by kernel_rfl) (by intro W _; go_simp) hS ?_
    refine takeV 21 32 (.pointer (some ⟨m, 0, none⟩)) rfl rfl (by kernel_rfl) (by kernel_rfl) (by kernel_rfl) (fun _ _ _ h => h) (by kernel_rfl) (by intro W _; go_simp) hS ?_
    refine takeV 22 33 (.pointer (some ⟨m, 8, none⟩)) rfl rfl (by kernel_rfl) (by kernel_rfl) (by kernel_rfl) (fun _ _ _ h => h) (by kernel_rfl) (by intro W _; go_simp) hS ?_
    refine takeV 23 34 (.int .u64 0) rfl rfl (by kernel_rfl) (by kernel_rfl) (by kernel_rfl) (fun _ _ _ h => h) (by kernel_rfl) (by intro W hW; obtain ⟨s1, s2, s3, s4, s5, s6, s7, s8⟩ := hW; go_simp) hS ?_
    refine takeV 24 35 (.pointer (some ⟨m, 0, none⟩)) rfl rfl (by kernel_rfl) (by kernel_rfl) (by kernel_rfl) (fun _ _ _ h => h) (by kernel_rfl) (by intro W _; go_simp) hS ?_
    refine takeV 25 36 (.pointer (some ⟨m, 0, none⟩)) rfl rfl (by kernel_rfl) (by kernel_rfl) (by kernel_rfl) (fun _ _ _ h => h) (by kernel_rfl) (by intro W _; go_simp) hS ?_
    refine takeV 26 37 (.pointer (some ⟨m, 4, none⟩)) rfl rfl (by kernel_rfl) (by kernel_rfl) (by kernel_rfl) (fun _ _ _ h => h) (by kernel_rfl) (by intro W _; go_simp) hS ?_
    refine takeV 27 38 (.int .u64 0) rfl rfl (by kernel_rfl) (by kernel_rfl) (by kernel_rfl) (fun _ _ _ h => h) (by kernel_rfl) (by intro W hW; obtain ⟨s1, s2, s3, s4, s5, s6, s7, s8⟩ := hW; go_simp) hS ?_
    refine takeV 28 39 (.slice (some ⟨ib, 0, none⟩) 1 1) rfl rfl (by kernel_rfl) (by kernel_rfl) (by kernel_rfl) (fun _ _ _ h => h) (by kernel_rfl) (by intro W _; go_simp) hS ?_
    refine takeV 29 40 (.pointer (some ⟨db, 0, none⟩)) rfl rfl (by kernel_rfl) (by kernel_rfl) (by kernel_rfl) (fun _ _ _ h => h) (by kernel_rfl) (by intro W _; go_simp) hS ?_
    refine takeV 30 41 (.pointer (some ⟨db, 0, none⟩)) rfl rfl (by kernel_rfl) (by kernel_rfl) (by kernel_rfl) (fun _ _ _ h => h) (by kernel_rfl) (by intro W _; go_simp) hS ?_
    refine takeV 31 42 (.pointer (some ⟨db, 0, none⟩)) rfl rfl (by kernel_rfl) (by kernel_rfl) (by kernel_rfl) (fun _ _ _ h => h) (by kernel_rfl) (by intro W _; go_simp) hS ?_
    refine takeV 32 43 (.int .u8 8) rfl rfl (by kernel_rfl) (by kernel_rfl) (by kernel_rfl) (fun _ _ _ h => h) (by kernel_rfl) (by intro W hW; obtain ⟨s1, s2, s3, s4, s5, s6, s7, s8⟩ := hW; go_simp) hS ?_
    refine takeV 33 44 (.bool true) rfl rfl (by kernel_rfl) (by kernel_rfl) (by kernel_rfl) (fun _ _ _ h => h) (by kernel_rfl) (by intro W _; go_simp) hS ?_
    refine takeV 34 45 (.bool true) rfl rfl (by kernel_rfl) (by kernel_rfl) (by kernel_rfl) (fun _ _ _ h => h) (by kernel_rfl) (by intro W _; go_simp) hS ?_
    refine takeV 35 46 (.pointer (some ⟨m, 0, none⟩)) rfl rfl (by kernel_rfl) (by kernel_rfl) (by kernel_rfl) (fun _ _ _ h => h) (by kernel_rfl) (by intro W _; go_simp) hS ?_
    refine takeV 36 47 (.pointer (some ⟨db, 0, none⟩)) rfl rfl (by kernel_rfl) (by kernel_rfl) (by kernel_rfl) (fun _ _ _ h => h) (by kernel_rfl) (by intro W _; go_simp) hS ?_
    rw [show (Act.put _ _ _ : Act) = { tmps := #[.pointer (some ⟨m, 0, none⟩), .pointer (some ⟨db, 0, none⟩), .slice (some ⟨ib, 0, none⟩) 1 1, undef, undef, undef, undef, .pointer (some ⟨m, 0, none⟩), .pointer (some ⟨m, 0, none⟩), .pointer (some ⟨m, 176, none⟩), .bool false, .pointer (some ⟨db, 0, none⟩), .pointer (some ⟨db, 0, none⟩), .pointer (some ⟨db, 4, none⟩), .int .u64 1, .pointer (some ⟨db, 0, none⟩), .pointer (some ⟨db, 0, none⟩), .pointer (some ⟨db, 6, none⟩), .int .u64 0, .pointer (some ⟨m, 0, none⟩), .pointer (some ⟨m, 0, none⟩), .pointer (some ⟨m, 42, none⟩), .int .i64 1, .pointer (some ⟨m, 0, none⟩), .pointer (some ⟨m, 0, none⟩), .pointer (some ⟨m, 43, none⟩), .int .u64 0, .pointer (some ⟨m, 0, none⟩), .pointer (some ⟨m, 0, none⟩), .pointer (some ⟨m, 7, none⟩), .int .i64 0, .pointer (some ⟨m, 0, none⟩), .pointer (some ⟨m, 0, none⟩), .pointer (some ⟨m, 8, none⟩), .int .u64 0, .pointer (some ⟨m, 0, none⟩), .pointer (some ⟨m, 0, none⟩), .pointer (some ⟨m, 4, none⟩), .int .u64 0, .slice (some ⟨ib, 0, none⟩) 1 1, .pointer (some ⟨db, 0, none⟩), .pointer (some ⟨db, 0, none⟩), .pointer (some ⟨db, 0, none⟩), .int .u8 8, .bool true, .bool true, .pointer (some ⟨m, 0, none⟩), .pointer (some ⟨db, 0, none⟩), undef, undef, undef, undef, undef, undef, undef, undef, undef, undef, undef, undef, undef, undef, undef, undef, undef, undef, undef, undef, undef, undef, undef, undef, undef, undef, undef, undef, undef, undef, undef, undef, undef, undef, undef, undef, undef, undef, undef, undef, undef, undef, undef, undef, undef, undef, undef, undef, undef, undef], defers := [] } from by kernel_rfl]
    refine wpAnyH_all (rs := [37, 40]) (by kernel_rfl) (by simp) ?_
    intro j hj
    simp only [List.mem_cons, List.not_mem_nil, or_false] at hj
    rcases hj with rfl | rfl
    · refine wpOp_call 37 (some 48) 23 #[.pointer (some ⟨m, 0, none⟩), .pointer (some ⟨db, 0, none⟩)] rfl rfl (by kernel_rfl) (by go_simp) ?_
      refine (owes_any m db 0 w.drew m186 d6 hm hd).mono ?_
      rintro e w1 ⟨rfl, hb1⟩
      have hS1 := hS.below hb1
      have hs1 : w.heap.size ≤ w1.heap.size := hb1.size
      refine ⟨_, rfl, hS1, ?_⟩
      refine takeV 38 49 (.bool false) rfl rfl (by kernel_rfl) (by kernel_rfl) (by kernel_rfl) (fun _ _ _ h => h) (by kernel_rfl) (by intro W _; go_simp) hS1 ?_
      refine takeV 39 50 (.agg (evA ib)) rfl rfl (by kernel_rfl) (by kernel_rfl) (by kernel_rfl) (fun _ _ _ h => h) (by kernel_rfl) (fun W _ => run_build_op 121 _ rfl (ev_built ib) (by kernel_rfl)) hS1 ?_
      have hS2 := hS1.below (below_alloc_self w1 (.cells ev0 121))
      refine allVal 40 (some 6) (.pointer (some ⟨w1.heap.size, 0, none⟩)) (w1.alloc (.cells ev0 121)) rfl rfl (by kernel_rfl) (by kernel_rfl) (by kernel_rfl) hS2 ?_
      refine wpAnyH_all (rs := [41]) (by kernel_rfl) (by simp) ?_
      intro j hj
      simp only [List.mem_singleton] at hj
      subst hj
      have hbl : Below w.heap.size w (w1.alloc (.cells ev0 121)) := ((drew_below w).trans hb1).alloc hs1 _
      refine wpOp_storeRow 41 121 (.tmp 6) (.tmp 50) rfl rfl rfl (by kernel_rfl) w1.heap.size (evA ib) (by kernel_rfl) (by kernel_rfl) 121 ev0 (heap_alloc_new w1 _) Yba.size121 rfl (by kernel_rfl) ?_
      refine ⟨hS1.below (below_setRow_new (below_alloc_self w1 _) (Nat.le_refl _) _), ?_⟩
      refine wpAnyH_done (by kernel_rfl) ?_ _
      go_wp2_with fail
      go_meet
      case rel => exact ⟨w1.heap.size, rfl, hs1, setRow_heap _ _ _ _ _ _ (heap_alloc_new w1 _), below_setRow_new hbl hs1 _⟩
    · have hS1 := hS.below (below_alloc_self w.drew (.cells ev0 121))
      refine wpOp_val 40 (some 6) (.pointer (some ⟨w.drew.heap.size, 0, none⟩)) (w.drew.alloc (.cells ev0 121)) rfl rfl (by kernel_rfl) (by kernel_rfl) ?_
      refine ⟨hS1, ?_⟩
      refine allCall 37 (some 48) 23 #[.pointer (some ⟨m, 0, none⟩), .pointer (some ⟨db, 0, none⟩)] rfl rfl (by kernel_rfl) (by kernel_rfl) (by go_simp) ?_
      have hsz : (w.drew.alloc (.cells ev0 121)).heap.size = w.heap.size + 1 := World.size_alloc ..
      refine (owes_any m db 0 (w.drew.alloc (.cells ev0 121)) (cell_alloc_some m186 _) (cell_alloc_some d6 _) (by omega) (by omega)).mono ?_
      rintro e w2 ⟨rfl, hb2⟩
      have hS2 := hS1.below hb2
      refine ⟨_, rfl, hS2, ?_⟩
      refine takeV 38 49 (.bool false) rfl rfl (by kernel_rfl) (by kernel_rfl) (by kernel_rfl) (fun _ _ _ h => h) (by kernel_rfl) (by intro W _; go_simp) hS2 ?_
      refine takeV 39 50 (.agg (evA ib)) rfl rfl (by kernel_rfl) (by kernel_rfl) (by kernel_rfl) (fun _ _ _ h => h) (by kernel_rfl) (fun W _ => run_build_op 121 _ rfl (ev_built ib) (by kernel_rfl)) hS2 ?_
      refine wpAnyH_all (rs := [41]) (by kernel_rfl) (by simp) ?_
      intro j hj
      simp only [List.mem_singleton] at hj
      subst hj
      have hbl : Below w.heap.size w w2 := (((drew_below w).trans (below_alloc_self w.drew (.cells ev0 121))).trans (hb2.mono (by omega)))
      have hg : w2.heap[w.heap.size]? = some (.cells ev0 121 (0, 0)) := (hb2.block w.heap.size (by omega)).trans (heap_alloc_new w.drew _)
      refine wpOp_storeRow 41 121 (.tmp 6) (.tmp 50) rfl rfl rfl (by kernel_rfl) w.heap.size (evA ib) (by kernel_rfl) (by kernel_rfl) 121 ev0 hg Yba.size121 rfl (by kernel_rfl) ?_
      refine ⟨hS.below (below_setRow_new (W := w.drew) ⟨hbl.os, hbl.tape, hbl.output, hbl.size, hbl.block⟩ (Nat.le_refl _) _), ?_⟩
      refine wpAnyH_done (by kernel_rfl) ?_ _
      go_wp2_with fail
      go_meet
      case rel => exact ⟨w.heap.size, rfl, Nat.le_refl _, setRow_heap _ _ _ _ _ _ hg, below_setRow_new hbl (Nat.le_refl _) _⟩
  case rest =>
    obtain ⟨N, rfl, hN, hrow, hb⟩ := hcut
    have e : ∀ (a : Addr) (v : Value), w.cell? a = some v → wc.cell? a = some v := fun a v hv => by rw [hb.cell (World.block_lt_of_cell? w _ hv)]; exact hv
    have n41 := e _ _ m41
    have n0 := e _ _ m0
    have nd := e _ _ d0
    have c1 : wc.cell? ⟨N, 1, none⟩ = some (.int .u8 0) := by rw [cell_of_row _ _ _ _ _ _ hrow]; rfl
    have f1 : wc.frozen? ⟨N, 1, none⟩ = false := by simp [World.frozen?, hrow]
    have HR := hideIt hrow
    have HB := hideIt hb
    clear hrow hb e m176 m42 m43 m7 m8 m4 m41 m186 m0 d0 d4 d6 hS
    go_wp2_with fail
    have hrow2 : (wc.setCell ⟨N, 1, none⟩ (.int .u8 2)).heap[N]? = some (.cells (evB ib) 121 (0, 0)) := by
      rw [setCell_eq_setRow _ _ _ _ _ _ _ HR.out, setRow_heap _ _ _ _ _ _ HR.out]; rfl
    have hNm : m ≠ N := by omega
    have hNo : ob ≠ N := by omega
    have hS : HS m ob N ib (wc.setCell ⟨N, 1, none⟩ (.int .u8 2)).drew := ⟨by rw [World.cell?_drew, World.cell?_setCell_other _ _ _ _ (by simp)]; exact n41, by rw [World.cell?_drew, World.cell?_setCell_other _ _ _ _ (by simp)]; exact n0, hrow2⟩
    refine wp_region_held (S := HS m ob N ib) (by kernel_rfl) ?_
    refine takeV 0 73 (.pointer (some ⟨m, 0, none⟩)) rfl rfl (by kernel_rfl) (by kernel_rfl) (by kernel_rfl) (fun _ _ _ h => h) (by kernel_rfl) (by intro W _; go_simp) hS ?_
    refine takeV 1 74 (.pointer (some ⟨m, 0, none⟩)) rfl rfl (by kernel_rfl) (by kernel_rfl) (by kernel_rfl) (fun _ _ _ h => h) (by kernel_rfl) (by intro W _; go_simp) hS ?_
    refine takeV 2 75 (.pointer (some ⟨m, 41, none⟩)) rfl rfl (by kernel_rfl) (by kernel_rfl) (by kernel_rfl) (fun _ _ _ h => h) (by kernel_rfl) (by intro W _; go_simp) hS ?_
    refine takeV 3 76 (.slice none 0 0) rfl rfl (by kernel_rfl) (by kernel_rfl) (by kernel_rfl) (fun _ _ _ h => h) (by kernel_rfl) (by intro W hW; obtain ⟨s1, s2, s3⟩ := hW; go_simp) hS ?_
    refine takeV 4 77 (.int .i64 0) rfl rfl (by kernel_rfl) (by kernel_rfl) (by kernel_rfl) (fun _ _ _ h => h) (by kernel_rfl) (by intro W _; go_simp) hS ?_
    refine takeV 5 78 (.bool false) rfl rfl (by kernel_rfl) (by kernel_rfl) (by kernel_rfl) (fun _ _ _ h => h) (by kernel_rfl) (by intro W _; go_simp) hS ?_
    refine takeV 6 79 (.bool false) rfl rfl (by kernel_rfl) (by kernel_rfl) (by kernel_rfl) (fun _ _ _ h => h) (by kernel_rfl) (by intro W _; go_simp) hS ?_
    refine takeV 7 80 (.pointer (some ⟨m, 0, none⟩)) rfl rfl (by kernel_rfl) (by kernel_rfl) (by kernel_rfl) (fun _ _ _ h => h) (by kernel_rfl) (by intro W _; go_simp) hS ?_
    refine takeV 8 81 (.pointer (some ⟨m, 0, none⟩)) rfl rfl (by kernel_rfl) (by kernel_rfl) (by kernel_rfl) (fun _ _ _ h => h) (by kernel_rfl) (by intro W _; go_simp) hS ?_
    refine takeV 9 82 (.pointer (some ⟨m, 0, none⟩)) rfl rfl (by kernel_rfl) (by kernel_rfl) (by kernel_rfl) (fun _ _ _ h => h) (by kernel_rfl) (by intro W _; go_simp) hS ?_
    refine takeV 10 83 (.iface 106 (.pointer (some ⟨ob, 0, none⟩))) rfl rfl (by kernel_rfl) (by kernel_rfl) (by kernel_rfl) (fun _ _ _ h => h) (by kernel_rfl) (by intro W hW; obtain ⟨s1, s2, s3⟩ := hW; go_simp) hS ?_
    refine takeV 11 84 (.agg (evB ib)) rfl rfl (by kernel_rfl) (by kernel_rfl) (by kernel_rfl) (fun _ _ _ h => h) (by kernel_rfl) (fun W hW => run_load_op 121 _ rfl N (by kernel_rfl) 121 (evB ib) hW.2.2 Yba.isRow121 Yba.size121) hS ?_
    have hof : wc.frozen? ⟨ob, 0, none⟩ = false := by rw [HB.out.frozen hob]; exact of
    have ho0 : wc.cell? ⟨ob, 0, none⟩ = some (.int .i64 0) := by rw [HB.out.cell hob]; exact o0
    have hsz : w.heap.size ≤ wc.heap.size := HB.out.size
    have hNl : N < wc.heap.size := (Array.getElem?_eq_some_iff.1 HR.out).1
    have hdrs : (wc.setCell ⟨N, 1, none⟩ (.int .u8 2)).drew.heap.size = wc.heap.size := World.size_setCell ..
    rw [show (Act.put _ _ _ : Act) = { tmps := #[.pointer (some ⟨m, 0, none⟩), .pointer (some ⟨db, 0, none⟩), .slice (some ⟨ib, 0, none⟩) 1 1, undef, undef, undef, .pointer (some ⟨N, 0, none⟩), .pointer (some ⟨m, 0, none⟩), .pointer (some ⟨m, 0, none⟩), .pointer (some ⟨m, 176, none⟩), .bool false, u11, u12, u13, u14, u15, u16, u17, u18, u19, u20, u21, u22, u23, u24, u25, u26, u27, u28, u29, u30, u31, u32, u33, u34, u35, u36, u37, u38, u39, u40, u41, u42, u43, u44, u45, u46, u47, u48, u49, u50, .pointer (some ⟨db, 0, none⟩), .pointer (some ⟨db, 0, none⟩), .pointer (some ⟨db, 0, none⟩), .int .u8 8, .bool false, .bool false, undef, undef, undef, undef, undef, undef, undef, .bool true, .bool true, .pointer (some ⟨N, 1, none⟩), undef, undef, undef, undef, undef, undef, .pointer (some ⟨m, 0, none⟩), .pointer (some ⟨m, 0, none⟩), .pointer (some ⟨m, 41, none⟩), .slice none 0 0, .int .i64 0, .bool false, .bool false, .pointer (some ⟨m, 0, none⟩), .pointer (some ⟨m, 0, none⟩), .pointer (some ⟨m, 0, none⟩), .iface 106 (.pointer (some ⟨ob, 0, none⟩)), .agg (evB ib), undef, undef, undef, undef, undef, undef, undef, undef, undef, undef, undef, undef, undef], defers := [] } from by kernel_rfl]
    refine allCall 12 (some 85) 66 #[.pointer (some ⟨ob, 0, none⟩), .agg (evB ib)] rfl rfl (by kernel_rfl) (by kernel_rfl) (by kernel_rfl) ?_
    refine (deliverO ob 0 (evB ib) (wc.setCell ⟨N, 1, none⟩ (.int .u8 2)).drew (by omega) (by rw [World.cell?_drew, World.cell?_setCell_other _ _ _ _ (by simp)]; exact ho0) (by rw [World.frozen?_drew, World.frozen?_setCell]; exact hof)).mono ?_
    rintro e w2 ⟨rfl, hk⟩
    have hcm : ∀ k, w2.cell? ⟨m, k, none⟩ = (wc.setCell ⟨N, 1, none⟩ (.int .u8 2)).drew.cell? ⟨m, k, none⟩ := fun k => World.cell?_of_block (a := ⟨m, k, none⟩) (hk.block m (by omega) hmo)
    have hS2 : HS m ob N ib w2 := ⟨by rw [hcm]; exact hS.1, by rw [hcm]; exact hS.2.1, by rw [hk.block N (by omega) (by omega)]; exact hS.2.2⟩
    refine ⟨_, rfl, hS2, ?_⟩
    refine takeV 13 86 (.bool false) rfl rfl (by kernel_rfl) (by kernel_rfl) (by kernel_rfl) (fun _ _ _ h => h) (by kernel_rfl) (by intro W _; go_simp) hS2 ?_
    refine takeV 14 87 (.bool false) rfl rfl (by kernel_rfl) (by kernel_rfl) (by kernel_rfl) (fun _ _ _ h => h) (by kernel_rfl) (by intro W _; go_simp) hS2 ?_
    refine wpAnyH_done (by kernel_rfl) ?_ _
    go_wp2_with fail
    go_end0
    refine ⟨rfl, hk.os.trans HB.out.os, hk.tape.trans HB.out.tape, hk.output.trans HB.out.output, Nat.le_trans hsz (Nat.le_trans (Nat.le_of_eq hdrs.symm) hk.size), fun b hlt hne => ?_⟩
    rw [hk.block b (by omega) hne]
    exact (Below.heap_setCell _ _ _ _ (show b ≠ N by omega)).trans (HB.out.block b hlt)
end Go.Proofs.Ybulkashs
