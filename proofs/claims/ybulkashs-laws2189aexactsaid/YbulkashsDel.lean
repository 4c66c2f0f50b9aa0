/- The walks of owes (23), Links (68), Deliver (66), deliver (16). -/
import Derived.Test.YbulkashsKeep
import Derived.RegionTactic
import Derived.Deep.CutRange
import Derived.Outline
namespace Go.Proofs.Ybulkashs
open Go.RowKit Go.Sort

theorem links_any (v : Value) (w : World) : Calls Yba.prog 68 #[v] w fun e w' => e = .returned (.slice none 0 0) ∧ w' = w := by
  go_enter Yba.func68, Yba.ntmps68
  go_wp2
  go_ret
  exact ⟨rfl, rfl⟩

theorem look_nil (W : World) (k : Int) : (Instr.lookup 74 (.map none) (.int .u64 k) true).run Yba.prog W = .ok (.tuple #[.agg #[.int .u64 0, .int .u64 0, .int .u64 0, .pointer none, .int .u16 0], .bool false]) W := by kernel_rfl

set_option maxHeartbeats 1000000 in
set_option maxRecDepth 100000 in
theorem owes_any (m db : Nat) (k : Int) (w : World) (h1 : w.cell? ⟨m, 186, none⟩ = some (.map none)) (h2 : w.cell? ⟨db, 6, none⟩ = some (.int .u64 k)) (hm : m < w.heap.size) (hd : db < w.heap.size) :
    Calls Yba.prog 23 #[.pointer (some ⟨m, 0, none⟩), .pointer (some ⟨db, 0, none⟩)] w fun e w' => e = .returned (.bool false) ∧ Below w.heap.size w w' := by
  have hl := look_nil
  go_enter Yba.func23, Yba.ntmps23
  go_wp2
  go_region
  go_wp2
  go_ret
  exact ⟨rfl, (((Below.refl _ _).alloc (Nat.le_refl _) _).drew)⟩

/-- w' is w but for new blocks and for block ob. -/
structure KeptO (ob : Nat) (w w' : World) : Prop where
  os : w'.os = w.os
  tape : w'.tape = w.tape
  output : w'.output = w.output
  size : w.heap.size ≤ w'.heap.size
  block : ∀ b, b < w.heap.size → b ≠ ob → w'.heap[b]? = w.heap[b]?

set_option maxHeartbeats 1000000 in
theorem deliverO (ob : Nat) (n : Int) (ev : Array Value) (w : World) (hob : ob < w.heap.size) (h : w.cell? ⟨ob, 0, none⟩ = some (.int .i64 n)) (hf : w.frozen? ⟨ob, 0, none⟩ = false) :
    Calls Yba.prog 66 #[.pointer (some ⟨ob, 0, none⟩), .agg ev] w fun e w' => e = .returned (.bool true) ∧ KeptO ob w w' := by
  go_enter Yba.func66, Yba.ntmps66
  go_wp2
  go_ret
  exact ⟨rfl, rfl, rfl, rfl, by simp [World.setCell], fun b hb hne => by rw [Below.heap_alloc _ _ _ (by simpa [World.setCell] using hb), Below.heap_setCell _ _ _ _ hne]⟩

theorem bcell {W w1 : World} (hb : Below W.heap.size W w1) : (∀ b o, b < W.heap.size → w1.cell? ⟨b, o, none⟩ = W.cell? ⟨b, o, none⟩) :=
  fun b o h => hb.cell (p := ⟨b, o, none⟩) h

theorem wpOp_call {ops : Array Oper} {Q : Exit → Act → World → Prop} {K : Act → World → Prop} {a : Act} {w : World} (i : Nat) {oi : Oper} (d : Option Tmp) (f : FuncId) (args : Array Value) (hi : ops[i]? = some oi) (hd : oi.dst = d)
    (hw : Region.wanted oi (yielded ops a.tmps) = true) (hrun : (execOp a.eval oi).run Yba.prog w = .ok (.enter f args) w)
    (h : Calls Yba.prog f args w fun e w' => ∃ v, e = .returned v ∧ K (a.put d v) w') : wpOp Yba.prog ops Q i K a w := by
  unfold wpOp
  simp only [hi, hw, if_true]
  refine .inl ?_
  subst hd
  unfold Oper.wp
  rw [hrun]
  refine h.mono ?_
  rintro e w' ⟨v, rfl, h1⟩
  exact h1

theorem wpOp_val {ops : Array Oper} {Q : Exit → Act → World → Prop} {K : Act → World → Prop} {a : Act} {w : World} (i : Nat) {oi : Oper} (d : Option Tmp) (v : Value) (w' : World) (hi : ops[i]? = some oi) (hd : oi.dst = d)
    (hw : Region.wanted oi (yielded ops a.tmps) = true) (hrun : (execOp a.eval oi).run Yba.prog w = .ok (.value v) w')
    (h : K (a.put d v) w') : wpOp Yba.prog ops Q i K a w := by
  unfold wpOp
  simp only [hi, hw, if_true]
  refine .inl ?_
  subst hd
  unfold Oper.wp
  rw [hrun]
  exact h

theorem wpOp_storeRow {ops : Array Oper} {Q : Exit → Act → World → Prop} {K : Act → World → Prop} {a : Act} {w : World} (i : Nat) {oi : Oper} (ty : TypeId) (x y : Operand) (hi : ops[i]? = some oi) (hd : oi.dst = none) (ho : oi.op = .store ty x y)
    (hw : Region.wanted oi (yielded ops a.tmps) = true) (g : Nat) (cells : Array Value) (hx : a.eval x = .pointer (some ⟨g, 0, none⟩)) (hy : a.eval y = .agg cells) (t : TypeId) (old : Array Value) (hg : w.heap[g]? = some (.cells old t (0, 0)))
    (hinf : (Yba.prog.info? ty).map (·.size) = some cells.size) (hold : old.size = cells.size) (h1 : cells.all (·.oneCell') = true)
    (h : K (a.put none undef) (w.setRow g cells)) : wpOp Yba.prog ops Q i K a w := by
  unfold wpOp
  simp only [hi, hw, if_true]
  exact .inl (wp_store_row ty x y ho g cells hx hy t old hg hinf hold h1 (by rw [hd]; exact h))

/-- The zero event. -/
def ev0 : Array Value := #[.int .u64 0, .int .u8 0, .int .u64 0, .slice none 0 0, .int .i64 0, .int .u64 0, .int .i64 0, .int .u64 0, .int .u64 0, .slice none 0 0, .bool false]

/-- What the event's loads read. -/
def DS (m db : Nat) (W : World) : Prop :=
  W.cell? ⟨m, 42, none⟩ = some (.int .i64 1) ∧ W.cell? ⟨m, 43, none⟩ = some (.int .u64 0) ∧ W.cell? ⟨m, 7, none⟩ = some (.int .i64 0) ∧ W.cell? ⟨m, 8, none⟩ = some (.int .u64 0) ∧ W.cell? ⟨m, 4, none⟩ = some (.int .u64 0)
    ∧ W.cell? ⟨db, 0, none⟩ = some (.int .u8 8) ∧ W.cell? ⟨db, 4, none⟩ = some (.int .u64 1) ∧ W.cell? ⟨db, 6, none⟩ = some (.int .u64 0)

/-- The event as it is first laid. -/
def evA (ib : Nat) : Array Value := #[.int .u64 1, .int .u8 0, .int .u64 0, .slice none 0 0, .int .i64 1, .int .u64 0, .int .i64 0, .int .u64 0, .int .u64 0, .slice (some ⟨ib, 0, none⟩) 1 1, .bool false]

theorem DS.below {m db : Nat} {W w' : World} (h : DS m db W) (hb : Below W.heap.size W w') : DS m db w' := by
  have e : ∀ (a : Addr) (v : Value), W.cell? a = some v → w'.cell? a = some v := fun a v hv => by rw [hb.cell (World.block_lt_of_cell? W _ hv)]; exact hv
  exact ⟨e _ _ h.1, e _ _ h.2.1, e _ _ h.2.2.1, e _ _ h.2.2.2.1, e _ _ h.2.2.2.2.1, e _ _ h.2.2.2.2.2.1, e _ _ h.2.2.2.2.2.2.1, e _ _ h.2.2.2.2.2.2.2⟩

theorem below_alloc_self (W : World) (o : Obj) : Below W.heap.size W (W.alloc o) := (Below.refl _ _).alloc (Nat.le_refl _) _

theorem below_setRow_new {W w1 : World} {g : Nat} (hb : Below W.heap.size W w1) (hg : W.heap.size ≤ g) (c : Array Value) : Below W.heap.size W (w1.setRow g c) :=
  hb.trans ⟨rfl, rfl, rfl, by simp [World.setRow], fun k hk => setRow_other w1 g k c (by omega)⟩

theorem drew_below (w : World) : Below w.heap.size w w.drew := ⟨rfl, rfl, rfl, Nat.le_refl _, fun _ _ => rfl⟩

theorem ev_built (ib : Nat) : Yba.prog.built 121 [(0, .int .u64 1), (2, .int .u64 0), (4, .int .i64 1), (5, .int .u64 0), (6, .int .i64 0), (7, .int .u64 0), (8, .int .u64 0), (9, .slice (some ⟨ib, 0, none⟩) 1 1), (10, .bool false)] = some (evA ib) := by kernel_rfl

theorem Yba.size121 : (Yba.prog.info? 121).map (·.size) = some 11 := by kernel_rfl

end Go.Proofs.Ybulkashs
