/- The walks of newSequencer (14) .. -/
import Derived.Test.YbulkashsWin
import Derived.Great.Ranges
import Derived.Great.BuildSlice
namespace Go.Proofs.Ybulkashs
open Go.RowKit Go.Sort

theorem takeV {ops : Array Oper} {Q : Exit → Act → World → Prop} {S : World → Prop} {fuel : Nat} {listed : Array Bool} {a : Act} {w : World} (i : Nat) {oi : Oper} (d : Tmp) (v : Value) (hi : ops[i]? = some oi) (hd : oi.dst = some d)
    (hs : Region.noSelect ops = true) (hf : Region.free .any ops listed i = true) (hr : (Region.ready .any ops listed).contains i = true)
    (hQ : ∀ c a w, Q (.panic c) (a.put (some d) v) w → Q (.panic c) a w) (hw : Region.wanted oi (yielded ops a.tmps) = true)
    (hrun : ∀ W, S W → (execOp a.eval oi).run Yba.prog W = .ok (.value v) W) (hS : S w)
    (h : wpAnyH Yba.prog .any ops Q S fuel (listed.setIfInBounds i true) (a.put (some d) v) w) : wpAnyH Yba.prog .any ops Q S (fuel + 1) listed a w :=
  wpAnyH_take hi hs hf hr (by rw [hd]; exact hQ) (.inl ⟨hw, hrun⟩) hS (by rw [hd]; exact h)

theorem allBox {ops : Array Oper} {Q : Exit → Act → World → Prop} {S : World → Prop} {fuel : Nat} {listed : Array Bool} {a : Act} {w : World} (i : Nat) {oi : Oper} (d : Tmp) (t : TypeId) (x : Operand) (hi : ops[i]? = some oi) (hd : oi.dst = some d) (ho : oi.op = .box t x)
    (hr : Region.ready .any ops listed = [i]) (hw : Region.wanted oi (yielded ops a.tmps) = true) (cells : Array Value) (hx : (a.eval x).cells = cells) (hS : S (w.alloc (.cells cells t)))
    (h : wpAnyH Yba.prog .any ops Q S fuel (listed.setIfInBounds i true) (a.put (some d) (.pointer (some ⟨w.heap.size, 0, none⟩))) (w.alloc (.cells cells t))) : wpAnyH Yba.prog .any ops Q S (fuel + 1) listed a w := by
  refine wpAnyH_all hr (by simp) ?_
  intro j hj
  simp only [List.mem_singleton] at hj
  subst hj
  unfold wpOp
  simp only [hi, hw, if_true]
  refine .inl ?_
  subst hx
  unfold Oper.wp execOp
  rw [← hd] at h
  simp only [ho, Sem.run_bind, Instr.box, newVar, newRow, run_newObj_alloc, Sem.run_pure, Result.andThen_ok]
  exact ⟨hS, h⟩

theorem cell_alloc_some {w : World} {a : Addr} {v : Value} (h : w.cell? a = some v) (o : Obj) : (w.alloc o).cell? a = some v := by
  rw [World.cell?_alloc_lt _ _ _ (World.block_lt_of_cell? w _ h)]; exact h

theorem sq_ex (m : Nat) : ∃ pc sc, Yba.prog.built 93 [(9, .pointer (some ⟨m, 51, none⟩)), (10, .pointer (some ⟨m, 202, none⟩))] = some pc ∧
    Yba.prog.built 101 [(0, .agg pc), (5, .int .u64 0), (14, .int .u64 1)] = some sc ∧ sc[0]? = some (.slice none 0 0) :=
  ⟨(Yba.prog.built 93 [(9, .pointer (some ⟨m, 51, none⟩)), (10, .pointer (some ⟨m, 202, none⟩))]).getD #[],
   (Yba.prog.built 101 [(0, .agg ((Yba.prog.built 93 [(9, .pointer (some ⟨m, 51, none⟩)), (10, .pointer (some ⟨m, 202, none⟩))]).getD #[])), (5, .int .u64 0), (14, .int .u64 1)]).getD #[], by kernel_rfl, by kernel_rfl, by kernel_rfl⟩

theorem run_build_op {a : Act} {o : Oper} {w : World} (t : TypeId) (parts : Array (Nat × Operand)) (ho : o.op = .build t parts) {cells : Array Value} {L : List (Nat × Value)}
    (hb : Yba.prog.built t L = some cells) (e : (parts.map fun (i, x) => (i, a.eval x)).toList = L) : (execOp a.eval o).run Yba.prog w = .ok (.value (.agg cells)) w := by
  unfold execOp
  simp only [ho, Sem.run_bind, run_build w t _ cells (by rw [e]; exact hb), Result.andThen_ok]
  rfl

set_option maxHeartbeats 1000000 in
set_option maxRecDepth 100000 in
theorem newSq_any (m : Nat) (w : World) (h36 : w.cell? ⟨m, 36, none⟩ = some (.int .u64 1)) :
    Calls Yba.prog 14 #[.pointer (some ⟨m, 0, none⟩), .int .u64 0] w fun e w' => ∃ N, e = .returned (.pointer (some ⟨N, 0, none⟩)) ∧ w.heap.size ≤ N ∧ w'.cell? ⟨N, 0, none⟩ = some (.slice none 0 0) ∧ Below w.heap.size w w' := by
  obtain ⟨pc, sc, hp, hsq, h0⟩ := sq_ex m
  have HP := hideIt hp
  have HQ := hideIt hsq
  have H0 := hideIt h0
  clear hp hsq h0
  go_enter Yba.func14, Yba.ntmps14
  go_wp2_with fail
  refine wp_region_held (S := fun W => W.cell? ⟨m, 36, none⟩ = some (.int .u64 1)) (by kernel_rfl) ?_
  have hS : ({ w with drawn := w.drawn + 1 } : World).cell? ⟨m, 36, none⟩ = some (.int .u64 1) := h36
  refine takeV 0 5 (.pointer (some ⟨m, 0, none⟩)) rfl rfl (by kernel_rfl) (by kernel_rfl) (by kernel_rfl) (fun _ _ _ h => h) (by kernel_rfl) (by intro W hW; go_simp) hS ?_
  refine takeV 1 6 (.pointer (some ⟨m, 0, none⟩)) rfl rfl (by kernel_rfl) (by kernel_rfl) (by kernel_rfl) (fun _ _ _ h => h) (by kernel_rfl) (by intro W hW; go_simp) hS ?_
  refine takeV 2 7 (.pointer (some ⟨m, 51, none⟩)) rfl rfl (by kernel_rfl) (by kernel_rfl) (by kernel_rfl) (fun _ _ _ h => h) (by kernel_rfl) (by intro W hW; go_simp) hS ?_
  refine takeV 3 8 (.pointer (some ⟨m, 0, none⟩)) rfl rfl (by kernel_rfl) (by kernel_rfl) (by kernel_rfl) (fun _ _ _ h => h) (by kernel_rfl) (by intro W hW; go_simp) hS ?_
  refine takeV 4 9 (.pointer (some ⟨m, 0, none⟩)) rfl rfl (by kernel_rfl) (by kernel_rfl) (by kernel_rfl) (fun _ _ _ h => h) (by kernel_rfl) (by intro W hW; go_simp) hS ?_
  refine takeV 5 10 (.pointer (some ⟨m, 202, none⟩)) rfl rfl (by kernel_rfl) (by kernel_rfl) (by kernel_rfl) (fun _ _ _ h => h) (by kernel_rfl) (by intro W hW; go_simp) hS ?_
  refine takeV 6 11 (.agg pc) rfl rfl (by kernel_rfl) (by kernel_rfl) (by kernel_rfl) (fun _ _ _ h => h) (by kernel_rfl) (fun W _ => run_build_op 93 _ rfl HP.out (by kernel_rfl)) hS ?_
  refine takeV 7 12 (.int .u64 0) rfl rfl (by kernel_rfl) (by kernel_rfl) (by kernel_rfl) (fun _ _ _ h => h) (by kernel_rfl) (by intro W hW; go_simp) hS ?_
  refine takeV 8 13 (.pointer (some ⟨m, 0, none⟩)) rfl rfl (by kernel_rfl) (by kernel_rfl) (by kernel_rfl) (fun _ _ _ h => h) (by kernel_rfl) (by intro W hW; go_simp) hS ?_
  refine takeV 9 14 (.pointer (some ⟨m, 0, none⟩)) rfl rfl (by kernel_rfl) (by kernel_rfl) (by kernel_rfl) (fun _ _ _ h => h) (by kernel_rfl) (by intro W hW; go_simp) hS ?_
  refine takeV 10 15 (.pointer (some ⟨m, 36, none⟩)) rfl rfl (by kernel_rfl) (by kernel_rfl) (by kernel_rfl) (fun _ _ _ h => h) (by kernel_rfl) (by intro W hW; go_simp) hS ?_
  refine takeV 11 16 (.int .u64 1) rfl rfl (by kernel_rfl) (by kernel_rfl) (by kernel_rfl) (fun _ _ _ h => h) (by kernel_rfl) (by intro W hW; go_simp) hS ?_
  refine takeV 12 17 (.agg sc) rfl rfl (by kernel_rfl) (by kernel_rfl) (by kernel_rfl) (fun _ _ _ h => h) (by kernel_rfl) (fun W _ => run_build_op 101 _ rfl HQ.out (by kernel_rfl)) hS ?_
  refine allBox 13 18 101 (.tmp 17) rfl rfl rfl (by kernel_rfl) (by kernel_rfl) sc (by kernel_rfl) (cell_alloc_some hS _) ?_
  refine takeV 14 4 (.pointer (some ⟨w.heap.size, 0, none⟩)) rfl rfl (by kernel_rfl) (by kernel_rfl) (by kernel_rfl) (fun _ _ _ h => h) (by kernel_rfl) (by intro W hW; go_simp) (cell_alloc_some hS _) ?_
  refine wpAnyH_done (by kernel_rfl) ?_ _
  go_wp2
  go_ret
  refine ⟨w.heap.size, by kernel_rfl, Nat.le_refl _, ?_, ?_⟩
  · show (World.alloc ({ w with drawn := w.drawn + 1 } : World) (.cells sc 101)).cell? ⟨w.heap.size, 0, none⟩ = _
    rw [show w.heap.size = ({ w with drawn := w.drawn + 1 } : World).heap.size from rfl, World.cell?_alloc_mark]
    exact H0.out
  · exact (show Below w.heap.size w ({ w with drawn := w.drawn + 1 } : World) from ⟨rfl, rfl, rfl, Nat.le_refl _, fun _ _ => rfl⟩).alloc (Nat.le_refl _) _
end Go.Proofs.Ybulkashs
