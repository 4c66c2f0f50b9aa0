/- The walk of signal.wait (17). -/
import Derived.Test.YbulkasdySel
import Derived.Conc.SmallLaws
namespace Go.Proofs.Ybulkasdy
open Go.RowKit Go.MuLone Go.Conc

theorem bytes30 : ∃ i, Yba.prog.info? 30 = some i ∧ i.bytes = 0 := by
  have h : (Yba.prog.info? 30).map (·.bytes) = some 0 := by kernel_rfl
  obtain ⟨i, hi, hb⟩ := Option.map_eq_some_iff.1 h
  exact ⟨i, hi, hb⟩

theorem mkc (w : World) : (Instr.makeChan 41 (.int .i64 0)).run Yba.prog w = .ok (.chan (some w.heap.size)) (w.alloc (.chan 0 #[] false 0 0 false)) := by
  obtain ⟨i, hi, hb⟩ := bytes30
  simpa using run_makeChan (P := Yba.prog) (w := w) Yba.underlying41 hi .i64 0 (by omega) (by rw [hb]; omega)

/-- The waiting where the state is ready at once. -/
theorem swait_true (L : Nat) (ctx : Value) (c0 c1 c2 c3 c4 : Value) (R : World → Prop) (w : World)
    (h : Calls Yba.prog 18 #[c0, c1, c2, c3, c4] w fun e w' => e = .returned (.bool true) ∧ R w') :
    Calls Yba.prog 17 #[.pointer (some ⟨L, 4, none⟩), ctx, .pointer (some ⟨L, 1, none⟩), .func (.func 18) #[] #[c0, c1, c2, c3, c4]] w fun e w' => e = .returned .nilIface ∧ R w' := by
  go_enter Yba.func17, Yba.ntmps17
  go_wp2_with fail
  refine wp_loop_rounds 1 ?_
  rw [rounds_succ]
  go_wp2_with fail
  refine h.mono ?_
  rintro e w1 ⟨rfl, hr⟩
  go_wp2_with fail
  go_ret
  exact ⟨rfl, hr⟩

/-- What the waiting finds where the state is not ready. -/
structure SigAt (L cb dc : Nat) (ev : Value) (w : World) : Prop where
  next : w.cell? ⟨L, 4, none⟩ = some (.chan none)
  fnext : w.frozen? ⟨L, 4, none⟩ = false
  mu : w.cell? ⟨L, 1, none⟩ = some (.int .i32 1)
  fmu : w.frozen? ⟨L, 1, none⟩ = false
  done : w.cell? ⟨cb, 1, none⟩ = some (.chan (some dc))
  err : w.cell? ⟨cb, 2, none⟩ = some ev
  chan : w.heap[dc]? = some (.chan 0 #[] true 0 0 false)
  ne : cb ≠ L

theorem eqChanNil (w : World) : (binOp .eql 41 (.chan none) (.chan none)).run Yba.prog w = .ok (.bool true) w := by kernel_rfl

/-- Where the waiting leaves. -/
def SigEnd (L cb dc : Nat) (ev : Value) (R : World → Prop) (a : Act) (w : World) : Prop :=
  a.defers = [] ∧ ∃ v, (results Yba.f17 a.tmps).run Yba.prog w = .ok v w ∧ (Ending.returned v = .returned ev ∧
      ∃ w1, R w1 ∧ SigAt L cb dc ev w1 ∧ w = (((w1.alloc (.chan 0 #[] false 0 0 false)).setCell ⟨L, 4, none⟩ (.chan (some w1.heap.size))).setCell ⟨L, 1, none⟩ (.int .i32 0)).setCell ⟨L, 1, none⟩ (.int .i32 1))

set_option maxHeartbeats 2000000 in
set_option maxRecDepth 100000 in
/-- The waiting where the state is not ready and the context has ended. -/
theorem swait_false (L cb dc : Nat) (ev : Value) (c0 c1 c2 c3 c4 : Value) (R : World → Prop) (w : World)
    (h : Calls Yba.prog 18 #[c0, c1, c2, c3, c4] w fun e w' => e = .returned (.bool false) ∧ R w' ∧ SigAt L cb dc ev w') :
    Calls Yba.prog 17 #[.pointer (some ⟨L, 4, none⟩), .iface 59 (.pointer (some ⟨cb, 0, none⟩)), .pointer (some ⟨L, 1, none⟩), .func (.func 18) #[] #[c0, c1, c2, c3, c4]] w fun e w' => e = .returned ev ∧
      ∃ w1, R w1 ∧ SigAt L cb dc ev w1 ∧ w' = (((w1.alloc (.chan 0 #[] false 0 0 false)).setCell ⟨L, 4, none⟩ (.chan (some w1.heap.size))).setCell ⟨L, 1, none⟩ (.int .i32 0)).setCell ⟨L, 1, none⟩ (.int .i32 1) := by
  have hmk := mkc
  have hcn := eqChanNil
  refine calls_of_wpn (E := SigEnd L cb dc ev R) (tmps := #[.pointer (some ⟨L, 4, none⟩), .iface 59 (.pointer (some ⟨cb, 0, none⟩)), .pointer (some ⟨L, 1, none⟩), .func (.func 18) #[] #[c0, c1, c2, c3, c4], undef, undef, undef, undef, undef, undef, undef, undef, undef, undef, undef, undef, undef, undef, undef, undef, undef, undef, undef, undef, undef, undef, undef, undef, undef, undef, undef, undef, undef, undef, undef, undef, undef, undef, undef, undef, undef])
    Yba.func17 rfl (by kernel_rfl) (fun _ _ h => h) ?_
  refine wpn_seq_wp fun K hK => ?_
  go_wp2_with fail
  refine wpn_seq (wpn_block_ret (R := SigEnd L cb dc ev R) (wpn_loop_ret (R := SigEnd L cb dc ev R) ?_ (fun _ _ h => ⟨rfl, h⟩)) (fun _ _ h => ⟨rfl, h⟩))
  refine wpn_seq_wp fun K hK => ?_
  go_wp2_with fail
  refine h.mono ?_
  rintro e w1 ⟨rfl, hR, hs⟩
  have hn := hs.next
  have hb1 : L < w1.heap.size := World.block_lt_of_cell? w1 _ hn
  obtain ⟨wa, hwa⟩ : ∃ wa, wa = w1.alloc (.chan 0 #[] false 0 0 false) := ⟨_, rfl⟩
  have hblk : wa.heap[L]? = w1.heap[L]? := by rw [hwa]; exact Below.heap_alloc _ _ _ hb1
  have hn1 : wa.cell? ⟨L, 4, none⟩ = some (.chan none) := by rw [World.cell?_of_block (a := ⟨L, 4, none⟩) hblk]; exact hn
  have hfn : wa.frozen? ⟨L, 4, none⟩ = false := by rw [World.frozen?_of_block (a := ⟨L, 4, none⟩) hblk]; exact hs.fnext
  have hmk1 : (Instr.makeChan 41 (.int .i64 0)).run Yba.prog w1 = .ok (.chan (some w1.heap.size)) wa := by rw [hwa]; exact mkc w1
  have HW := hideIt hwa
  have HS := hideIt hs
  clear hmk hwa hs
  go_wp2_with fail
  refine wpn_block_ret (R := SigEnd L cb dc ev R) ?_ (fun _ _ h => ⟨rfl, h⟩)
  refine wpn_seq_wp fun K hK => ?_
  go_wp2_with fail
  refine wpn_seq_wp fun K hK => ?_
  go_wp2_with fail
  refine wpn_seq_wp fun K hK => ?_
  go_wp2_with fail
  refine (unlock_held Yba.muLib ⟨L, 1, none⟩ _ ?_ ?_).mono ?_
  · rw [World.cell?_setCell_other _ _ _ _ (by simp), World.cell?_of_block (a := ⟨L, 1, none⟩) hblk]
    exact HS.out.mu
  · rw [World.frozen?_setCell, World.frozen?_of_block (a := ⟨L, 1, none⟩) hblk]
    exact HS.out.fmu
  rintro e w' ⟨rfl, rfl⟩
  obtain ⟨wb, hwb⟩ : ∃ wb, wb = (wa.setCell ⟨L, 4, none⟩ (.chan (some w1.heap.size))).setCell ⟨L, 1, none⟩ (.int .i32 0) := ⟨_, rfl⟩
  have hwbo : ∀ b, b ≠ L → b < w1.heap.size → wb.heap[b]? = w1.heap[b]? := fun b h1 h2 => by
    rw [hwb, Below.heap_setCell _ _ _ _ h1, Below.heap_setCell _ _ _ _ h1, HW.out]
    exact Below.heap_alloc _ _ _ h2
  have hcl : cb < w1.heap.size := World.block_lt_of_cell? w1 _ HS.out.done
  have hdl : dc < w1.heap.size := (Array.getElem?_eq_some_iff.1 HS.out.chan).1
  have hdL : dc ≠ L := fun e => by
    have h1 := HS.out.mu
    subst e
    simp [World.cell?, HS.out.chan] at h1
  have hbd : wb.cell? ⟨cb, 1, none⟩ = some (.chan (some dc)) := by rw [World.cell?_of_block (a := ⟨cb, 1, none⟩) (hwbo cb HS.out.ne hcl)]; exact HS.out.done
  have hbe : wb.cell? ⟨cb, 2, none⟩ = some ev := by rw [World.cell?_of_block (a := ⟨cb, 2, none⟩) (hwbo cb HS.out.ne hcl)]; exact HS.out.err
  have hbc : wb.heap[dc]? = some (.chan 0 #[] true 0 0 false) := by rw [hwbo dc hdL hdl]; exact HS.out.chan
  have hbn : wb.heap[w1.heap.size]? = some (.chan 0 #[] false 0 0 false) := by
    rw [hwb, Below.heap_setCell _ _ _ _ (show w1.heap.size ≠ L by omega), Below.heap_setCell _ _ _ _ (show w1.heap.size ≠ L by omega), HW.out]
    exact heap_alloc_new w1 _
  have hcel : (wa.setCell ⟨L, 4, none⟩ (.chan (some w1.heap.size))).cell? ⟨L, 1, none⟩ = some (.int .i32 1) := by
    rw [World.cell?_setCell_other _ _ _ _ (by simp), World.cell?_of_block (a := ⟨L, 1, none⟩) hblk]
    exact HS.out.mu
  have hbm : wb.cell? ⟨L, 1, none⟩ = some (.int .i32 0) := by rw [hwb]; exact World.cell?_setCell_same _ _ _ hcel
  have hbf : wb.frozen? ⟨L, 1, none⟩ = false := by rw [hwb, World.frozen?_setCell, World.frozen?_setCell, World.frozen?_of_block (a := ⟨L, 1, none⟩) hblk]; exact HS.out.fmu
  rw [← hwb]
  have HWB := hideIt hwb
  clear hwb hwbo hcel hn hn1 hfn hmk1
  go_wp2_with fail
  refine wpn_seq_wp fun K hK => ?_
  go_wp2_with fail
  refine (done60 cb _ _ hbd).mono ?_
  rintro e w' ⟨rfl, rfl⟩
  go_wp2_with fail
  refine wpn_seq (wpn_region_sel (cases := #[rcase w1.heap.size (.agg #[]), rcase dc (.agg #[])]) (j := 1) (c := dc) (z := .agg #[]) (cap := 0) (s := 0) (r := 0) (tm := false) (rest := [1, 2, 3]) rfl rfl (by kernel_rfl) (by simp [go_sem, execOp, rcase, Act.eval]) rfl (fun m c' hm hc' => ?_) hbc ?_)
  · rcases m with _ | _ | m
    · simp only [List.getElem?_toArray, List.getElem?_cons_zero, Option.some.injEq] at hc'
      subst hc'
      exact noWay_recv hbn
    · exact absurd rfl hm
    · simp at hc'
  rw [res_rr1]
  refine wpOps_value (v := goInt 1) rfl (by kernel_rfl) (by kernel_rfl) ?_
  refine wpOps_value (v := .bool false) rfl (by kernel_rfl) (by kernel_rfl) ?_
  refine wpOps_value (v := .bool true) rfl (by kernel_rfl) (by kernel_rfl) ?_
  refine Wpn.of_wp ?_
  go_wp2_with fail
  refine (lock_free Yba.muLib ⟨L, 1, none⟩ _ hbm hbf).mono ?_
  rintro e w3 ⟨rfl, hw3⟩
  have hbe3 : w3.cell? ⟨cb, 2, none⟩ = some ev := by rw [hw3, World.cell?_setCell_other _ _ _ _ (by simp)]; exact hbe
  have HW3 := hideIt hw3
  clear hw3
  go_wp2_with fail
  refine (err61 cb _ _ hbe3).mono ?_
  rintro e w4 ⟨rfl, hw4⟩
  subst hw4
  go_wp2_with fail
  refine ⟨rfl, _, results_tmp (fn := Yba.f17) rfl _ _ _, rfl, w1, hR, HS.out, ?_⟩
  rw [HW3.out, HWB.out, HW.out]
end Go.Proofs.Ybulkasdy
