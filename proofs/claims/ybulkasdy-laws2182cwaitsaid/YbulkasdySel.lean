/- A select of one goroutine inside a walk of Code: frames that are not early. -/
import Derived.Test.YbulkasdyBase
import Derived.Conc.LoneSelectN
import Derived.Conc.LoneCalls
namespace Go.Proofs.Ybulkasdy
open Go.RowKit Go.MuLone Go.Conc

/-- The code's walk in a frame that is not an early one. -/
def Wpn (c : Code) (Q : Exit → Act → World → Prop) (a : Act) (w : World) : Prop :=
  ∀ (b : Frame) (k : List Item) (cs : List Frame), b.kind ≠ .early → ∃ e a' w', Q e a' w' ∧ Arrives Yba.prog (lone (b.at a (.code c :: k)) cs w) b k cs e a' w'

section
variable {Q : Exit → Act → World → Prop} {a : Act} {w : World}

theorem Wpn.of_wp {c : Code} (h : c.wp Yba.prog Q a w) : Wpn c Q a w := fun b k cs _ => h b k cs

theorem wpn_seq {x y : Code} (h : Wpn x (Exit.then (Wpn y Q) Q) a w) : Wpn (.seq x y) Q a w := by
  intro b k cs hb
  obtain ⟨e, a1, w1, hq, hr⟩ := h b (.code y :: k) cs hb
  by_cases he : e = .normal
  · subst he
    obtain ⟨e2, a2, w2, hq2, hr2⟩ := hq b k cs hb
    exact ⟨e2, a2, w2, hq2, Arrives.of_steps (Steps.head step_seq hr) hr2⟩
  · have hq' : Q e a1 w1 := by cases e <;> first | exact absurd rfl he | exact hq
    exact ⟨e, a1, w1, hq', Arrives.of_steps (Steps.one step_seq) (Arrives.pass (x := .code y) rfl (fun _ _ => .inl he) hr)⟩

theorem wpn_seq_wp {x y : Code} (h : ∀ K : Act → World → Prop, (∀ a w, Wpn y Q a w → K a w) → x.wp Yba.prog (Exit.then K Q) a w) : Wpn (.seq x y) Q a w :=
  wpn_seq (Wpn.of_wp (h _ fun _ _ h => h))

/-- A block whose code leaves by a return. -/
theorem wpn_block_ret {id : Nat} {c : Code} {R : Act → World → Prop} (h : Wpn c (fun e a w => e = .ret ∧ R a w) a w) (hQ : ∀ a w, R a w → Q .ret a w) : Wpn (.block id c) Q a w := by
  intro b k cs hb
  obtain ⟨e, a1, w1, ⟨rfl, hq⟩, hr⟩ := h b (.inBlock id :: k) cs hb
  exact ⟨.ret, a1, w1, hQ _ _ hq, Arrives.of_steps (Steps.one step_block) hr⟩

/-- A loop whose first round leaves by a return. -/
theorem wpn_loop_ret {c : Code} {R : Act → World → Prop} (h : Wpn c (fun e a w => e = .ret ∧ R a w) a w) (hQ : ∀ a w, R a w → Q .ret a w) : Wpn (.loop c) Q a w := by
  intro b k cs hb
  obtain ⟨e, a1, w1, ⟨rfl, hq⟩, hr⟩ := h b (.inLoop c :: k) cs hb
  exact ⟨.ret, a1, w1, hQ _ _ hq, Arrives.of_steps (Steps.one step_loop) hr⟩

theorem wpOps_value {ops : Array Oper} {i : Nat} {rest : List Nat} {o : Oper} {v : Value} (ho : ops[i]? = some o) (hw : Region.wanted o (yielded ops a.tmps) = true)
    (hr : (execOp a.eval o).run Yba.prog w = .ok (.value v) w) (h : wpOps Yba.prog ops Q rest (a.put o.dst v) w) : wpOps Yba.prog ops Q (i :: rest) a w := by
  simp only [wpOps, ho, hw, if_true, Oper.wp, hr]
  exact .inl h

theorem wpn_region_sel {id : Nat} {ops : Array Oper} {rest : List Nat} {o : Oper} {cases : Array CommCase} {j c cap s r : Nat} {z : Value} {tm : Bool} (hsz : List.range ops.size = 0 :: rest) (ho : ops[0]? = some o) (hw : Region.wanted o (yielded ops a.tmps) = true)
    (hr : (execOp a.eval o).run Yba.prog w = .ok (.comm cases true .select) w) (hk : cases[j]? = some (rcase c z)) (hno : ∀ (m : Nat) (c' : CommCase), m ≠ j → cases[m]? = some c' → NoWay w c')
    (hc : w.heap[c]? = some (.chan cap #[] true s r tm)) (h : wpOps Yba.prog ops Q rest (a.put o.dst (commResult cases .select j z false)) w) : Wpn (.region id ops false) Q a w := by
  intro b k cs hb
  obtain ⟨e, a1, w1, hq, hr1⟩ := wp_ops rest _ _ h b k cs
  refine ⟨e, a1, w1, hq, Arrives.of_steps (Steps.head step_region (Steps.one ?_)) hr1⟩
  rw [hsz]
  have hs := step_lone_sel_recv_shut (P := Yba.prog) (stepG_comm (P := Yba.prog) (main := true) (b := b) (a := a) (k := k) (cs := cs) (rest := rest) ho hw hb hr) hk hno hc
  rw [Frame.finish_at, ho] at hs
  exact hs

/-- A call whose body is walked so. -/
theorem calls_of_wpn {f : FuncId} {fn : Func} {c : Code} {args tmps : Array Value} {R : Ending → World → Prop} {E : Act → World → Prop} (hf : Yba.prog.funcs[f]? = some fn) (hb : fn.body = some c) (ht : args ++ Array.replicate (fn.ntmps - args.size) undef = tmps)
    (hE : ∀ a w, E a w → a.defers = [] ∧ ∃ v, (results fn a.tmps).run Yba.prog w = .ok v w ∧ R (.returned v) w) (h : Wpn c (fun e a w => e = .ret ∧ E a w) { tmps := tmps, defers := [] } w) : Calls Yba.prog f args w R := by
  intro cs
  subst ht
  obtain ⟨e, a1, w1, ⟨rfl, hq⟩, todo, hs⟩ := h { (default : Frame) with fn := f, kind := .normal } [] cs (show CallKind.normal ≠ .early by decide)
  obtain ⟨hd, v, hv, hR⟩ := hE _ _ hq
  have he : Frame.enter Yba.prog f args .normal = ({ (default : Frame) with fn := f, kind := .normal } : Frame).at { tmps := args ++ Array.replicate (fn.ntmps - args.size) undef, defers := [] } [.code c] := by
    simp [Frame.enter, Frame.at, hf, hb]
  rw [← he] at hs
  exact ⟨.returned v, w1, _, hR, hs, rfl, rfl, hd, rfl, fn, hf, hv⟩
end

theorem hideIt {p : Prop} (h : p) : Hid p := h

theorem res_rr1 (a b : Nat) (z z' v : Value) (ok : Bool) : commResult #[rcase a z, rcase b z'] .select ((1 : Nat) : Int) v ok = .tuple #[goInt 1, .bool ok, z, v] := by
  simp [commResult, rcase, List.zipIdx_cons]
end Go.Proofs.Ybulkasdy
