/- Steps of a drawn region, one by one. -/
import Derived.Test.YbulkasdyKept
import Derived.Deep.RegionHeld3
import Derived.BigQuiet
namespace Go.Proofs.Ybulkasdy
open Go.RowKit

theorem takeV {ops : Array Oper} {Q : Exit → Act → World → Prop} {S : World → Prop} {fuel : Nat} {listed : Array Bool} {a : Act} {w : World} (i : Nat) {oi : Oper} (d : Tmp) (v : Value) (hi : ops[i]? = some oi) (hd : oi.dst = some d)
    (hs : Region.noSelect ops = true) (hf : Region.free .any ops listed i = true) (hr : (Region.ready .any ops listed).contains i = true)
    (hQ : ∀ c a w, Q (.panic c) (a.put (some d) v) w → Q (.panic c) a w) (hw : Region.wanted oi (yielded ops a.tmps) = true)
    (hrun : ∀ W, S W → (execOp a.eval oi).run Yba.prog W = .ok (.value v) W) (hS : S w)
    (h : wpAnyH Yba.prog .any ops Q S fuel (listed.setIfInBounds i true) (a.put (some d) v) w) : wpAnyH Yba.prog .any ops Q S (fuel + 1) listed a w :=
  wpAnyH_take hi hs hf hr (by rw [hd]; exact hQ) (.inl ⟨hw, hrun⟩) hS (by rw [hd]; exact h)

theorem allBox {ops : Array Oper} {Q : Exit → Act → World → Prop} {S : World → Prop} {fuel : Nat} {listed : Array Bool} {a : Act} {w : World} (i : Nat) {oi : Oper} (d : Tmp) (t : TypeId) (x : Operand) (hi : ops[i]? = some oi) (hd : oi.dst = some d) (ho : oi.op = .box t x)
    (hr : Region.ready .any ops listed = [i]) (hw : Region.wanted oi (yielded ops a.tmps) = true) (cells : Array Value) (hx : (a.eval x).cells = cells) (hS : S (w.alloc (.cells cells t)))
    (h : wpAnyH Yba.prog .any ops Q S fuel (listed.setIfInBounds i true) (a.put (some d) (.pointer (some ⟨w.heap.size, 0, none⟩))) (w.alloc (.cells cells t))) : wpAnyH Yba.prog .any ops Q S (fuel + 1) listed a w := by
  refine wpAnyH_all hr (by simp) ?_
  intro j hj
  simp only [List.mem_singleton] at hj
  subst hj
  unfold wpOp
  simp only [hi, hw, if_true]
  refine .inl ?_
  subst hx
  unfold Oper.wp execOp
  rw [← hd] at h
  simp only [ho, Sem.run_bind, Instr.box, newVar, newRow, run_newObj_alloc, Sem.run_pure, Result.andThen_ok]
  exact ⟨hS, h⟩

theorem run_build_op {a : Act} {o : Oper} {w : World} (t : TypeId) (parts : Array (Nat × Operand)) (ho : o.op = .build t parts) {cells : Array Value} {L : List (Nat × Value)}
    (hb : Yba.prog.built t L = some cells) (e : (parts.map fun (i, x) => (i, a.eval x)).toList = L) : (execOp a.eval o).run Yba.prog w = .ok (.value (.agg cells)) w := by
  unfold execOp
  simp only [ho, Sem.run_bind, run_build w t _ cells (by rw [e]; exact hb), Result.andThen_ok]
  rfl

theorem allCall {ops : Array Oper} {Q : Exit → Act → World → Prop} {S : World → Prop} {fuel : Nat} {listed : Array Bool} {a : Act} {w : World} (i : Nat) {oi : Oper} (d : Option Tmp) (f : FuncId) (args : Array Value) (hi : ops[i]? = some oi) (hd : oi.dst = d)
    (hr : Region.ready .any ops listed = [i]) (hw : Region.wanted oi (yielded ops a.tmps) = true) (hrun : (execOp a.eval oi).run Yba.prog w = .ok (.enter f args) w)
    (h : Calls Yba.prog f args w fun e w' => ∃ v, e = .returned v ∧ S w' ∧ wpAnyH Yba.prog .any ops Q S fuel (listed.setIfInBounds i true) (a.put d v) w') : wpAnyH Yba.prog .any ops Q S (fuel + 1) listed a w := by
  refine wpAnyH_all hr (by simp) ?_
  intro j hj
  simp only [List.mem_singleton] at hj
  subst hj
  unfold wpOp
  simp only [hi, hw, if_true]
  refine .inl ?_
  subst hd
  unfold Oper.wp
  rw [hrun]
  refine h.mono ?_
  rintro e w' ⟨v, rfl, h1, h2⟩
  exact ⟨h1, h2⟩

theorem allVal {ops : Array Oper} {Q : Exit → Act → World → Prop} {S : World → Prop} {fuel : Nat} {listed : Array Bool} {a : Act} {w : World} (i : Nat) {oi : Oper} (d : Option Tmp) (v : Value) (w' : World) (hi : ops[i]? = some oi) (hd : oi.dst = d)
    (hr : Region.ready .any ops listed = [i]) (hw : Region.wanted oi (yielded ops a.tmps) = true) (hrun : (execOp a.eval oi).run Yba.prog w = .ok (.value v) w') (hS : S w')
    (h : wpAnyH Yba.prog .any ops Q S fuel (listed.setIfInBounds i true) (a.put d v) w') : wpAnyH Yba.prog .any ops Q S (fuel + 1) listed a w := by
  refine wpAnyH_all hr (by simp) ?_
  intro j hj
  simp only [List.mem_singleton] at hj
  subst hj
  unfold wpOp
  simp only [hi, hw, if_true]
  refine .inl ?_
  subst hd
  unfold Oper.wp
  rw [hrun]
  exact ⟨hS, h⟩

theorem allSkip {ops : Array Oper} {Q : Exit → Act → World → Prop} {S : World → Prop} {fuel : Nat} {listed : Array Bool} {a : Act} {w : World} (i : Nat) {oi : Oper} (d : Option Tmp) (w' : World) (hi : ops[i]? = some oi) (hd : oi.dst = d)
    (hr : Region.ready .any ops listed = [i]) (hw : Region.wanted oi (yielded ops a.tmps) = true) (hrun : (execOp a.eval oi).run Yba.prog w = .ok .skip w') (hS : S w')
    (h : wpAnyH Yba.prog .any ops Q S fuel (listed.setIfInBounds i true) (a.put d undef) w') : wpAnyH Yba.prog .any ops Q S (fuel + 1) listed a w := by
  refine wpAnyH_all hr (by simp) ?_
  intro j hj
  simp only [List.mem_singleton] at hj
  subst hj
  unfold wpOp
  simp only [hi, hw, if_true]
  refine .inl ?_
  subst hd
  unfold Oper.wp
  rw [hrun]
  exact ⟨hS, h⟩

theorem cell_alloc_some {w : World} {a : Addr} {v : Value} (h : w.cell? a = some v) (o : Obj) : (w.alloc o).cell? a = some v := by
  rw [World.cell?_alloc_lt _ _ _ (World.block_lt_of_cell? w _ h)]; exact h

theorem wpOp_call {ops : Array Oper} {Q : Exit → Act → World → Prop} {K : Act → World → Prop} {a : Act} {w : World} (i : Nat) {oi : Oper} (d : Option Tmp) (f : FuncId) (args : Array Value) (hi : ops[i]? = some oi) (hd : oi.dst = d)
    (hw : Region.wanted oi (yielded ops a.tmps) = true) (hrun : (execOp a.eval oi).run Yba.prog w = .ok (.enter f args) w)
    (h : Calls Yba.prog f args w fun e w' => ∃ v, e = .returned v ∧ K (a.put d v) w') : wpOp Yba.prog ops Q i K a w := by
  unfold wpOp
  simp only [hi, hw, if_true]
  refine .inl ?_
  subst hd
  unfold Oper.wp
  rw [hrun]
  refine h.mono ?_
  rintro e w' ⟨v, rfl, h1⟩
  exact h1

theorem wpOp_val {ops : Array Oper} {Q : Exit → Act → World → Prop} {K : Act → World → Prop} {a : Act} {w : World} (i : Nat) {oi : Oper} (d : Option Tmp) (v : Value) (w' : World) (hi : ops[i]? = some oi) (hd : oi.dst = d)
    (hw : Region.wanted oi (yielded ops a.tmps) = true) (hrun : (execOp a.eval oi).run Yba.prog w = .ok (.value v) w')
    (h : K (a.put d v) w') : wpOp Yba.prog ops Q i K a w := by
  unfold wpOp
  simp only [hi, hw, if_true]
  refine .inl ?_
  subst hd
  unfold Oper.wp
  rw [hrun]
  exact h

end Go.Proofs.Ybulkasdy
