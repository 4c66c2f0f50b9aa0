/- The walks over the settings: large (11), trailer (18), epochLen (19), headers (20), charge (17), Settings.charge (13) at no payload, footprint (22) at no payload, posts (6). -/
import Derived.Test.YbulkashsRows
import Derived.WalkKit
import Derived.WalkSpells
import Derived.WalkLawsBesides
import Derived.Deep.MidRow
import Derived.Deep.RegionHeld3
import Derived.Lib.QuietBelow
import Derived.Deep.QuietTactic
import Derived.BigQuiet
namespace Go.Proofs.Ybulkashs
open Go.RowKit Go.Sort

theorem hideIt {p : Prop} (h : p) : Hid p := h

/-- The settings' cells that are read. -/
structure IsSet (st : List Value) (ptp : Bool) : Prop where
  len : st.length = 17
  c1 : st[1]? = some (.int .i64 1024)
  c5 : st[5]? = some (.int .i64 0)
  c6 : st[6]? = some (.int .i64 1024)
  c8 : st[8]? = some (.bool ptp)
  c9 : st[9]? = some (.bool false)
  c10 : st[10]? = some (.bool false)
  c11 : st[11]? = some (.bool false)

theorem boxCell (w : World) (st : List Value) (k : Nat) (v : Value) (h : st[k]? = some v) : (w.alloc (.cells st.toArray 50)).cell? ⟨w.heap.size, k, none⟩ = some v := by
  rw [World.cell?_alloc_mark]
  simpa using h

theorem trailer_any (st : List Value) (ptp : Bool) (h : IsSet st ptp) (w : World) :
    Calls Yba.prog 18 #[.agg st.toArray] w fun e w' => e = .returned (.int .i64 0) ∧ Below w.heap.size w w' := by
  have h9 := boxCell w st 9 _ h.c9
  have h10 := boxCell w st 10 _ h.c10
  clear h
  go_enter Yba.func18, Yba.ntmps18
  go_wp2
  go_ret
  exact ⟨rfl, (Below.refl _ _).alloc (Nat.le_refl _) _⟩

theorem epochLen_any (st : List Value) (ptp : Bool) (h : IsSet st ptp) (w : World) :
    Calls Yba.prog 19 #[.agg st.toArray] w fun e w' => e = .returned (.int .i64 0) ∧ Below w.heap.size w w' := by
  have h10 := boxCell w st 10 _ h.c10
  clear h
  go_enter Yba.func19, Yba.ntmps19
  go_wp2
  go_ret
  exact ⟨rfl, (Below.refl _ _).alloc (Nat.le_refl _) _⟩

theorem headers_any (st : List Value) (ptp : Bool) (h : IsSet st ptp) (w : World) :
    Calls Yba.prog 20 #[.agg st.toArray] w fun e w' => e = .returned (.int .i64 28) ∧ Below w.heap.size w w' := by
  have h11 := boxCell w st 11 _ h.c11
  clear h
  go_enter Yba.func20, Yba.ntmps20
  go_wp2
  go_ret
  exact ⟨rfl, (Below.refl _ _).alloc (Nat.le_refl _) _⟩

theorem large_any (st : List Value) (ptp : Bool) (h : IsSet st ptp) (n : Int) (hn : n ≤ 1024) (w : World) :
    Calls Yba.prog 11 #[.agg st.toArray, .int .i64 n] w fun e w' => e = .returned (.bool false) ∧ Below w.heap.size w w' := by
  have h6 := boxCell w st 6 _ h.c6
  have hd : decide (1024 < n) = false := by simp; omega
  clear h
  go_enter Yba.func11, Yba.ntmps11
  go_wp2
  go_ret
  exact ⟨rfl, (Below.refl _ _).alloc (Nat.le_refl _) _⟩


theorem charge0 (w : World) : Calls Yba.prog 17 #[.int .i64 0] w fun e w' => e = .returned (.int .i64 1024) ∧ w' = w := by
  go_enter Yba.func17, Yba.ntmps17
  go_wp2_with fail
  go_ret
  exact ⟨rfl, rfl⟩

theorem Yba.size50 : (Yba.prog.info? 50).map (·.size) = some 17 := by kernel_rfl
theorem Yba.isRow50 : ∃ d, Yba.prog.underlying 50 = some d ∧ d.isRow = true := ⟨_, Yba.underlying50, rfl⟩

theorem run_load50 {st : List Value} (h : st.length = 17) {b o : Nat} {W : World} (hr : W.rangeAt b o st) : (Instr.loadAt 50 (.pointer (some ⟨b, o, none⟩))).run Yba.prog W = .ok (.agg st.toArray) W := by
  obtain ⟨d, hu, hd⟩ := Yba.isRow50
  exact run_loadAt_mid W b o 50 st d hr hu hd (by rw [h]; exact Yba.size50)

theorem wpQuiet_load50 {ops : Array Oper} {C : World → Prop} {Q : Act → Prop} {rest : List Oper} {a : Act} {dst : Option Tmp} {x : Operand} {ty : TypeId} {pos : String} {after : Array Edge}
    (b off : Nat) (st : List Value) (hx : a.eval x = .pointer (some ⟨b, off, none⟩)) (hC : ∀ w, C w → w.rangeAt b off st) (hlen : st.length = 17)
    (h : wpQuiet Yba.prog ops C Q rest (a.put dst (.agg st.toArray))) : wpQuiet Yba.prog ops C Q ({ dst := dst, op := .load 50 x, type := ty, pos := pos, after := after, guard := none } :: rest) a := by
  refine wpQuiet_step fun K hK => ?_
  simp only [Region.wanted]
  refine ⟨_, fun w hw => ?_, hK _ h⟩
  unfold Oper.quietAt execOp
  simp only [hx, run_load50 hlen (hC w hw), Sem.run_bind, Result.andThen_ok]
  exact ⟨rfl, rfl⟩

theorem range_regrown {w : World} {b o : Nat} {cs : List Value} (h : w.rangeAt b o cs) : ∀ W, (∃ p : Regrown, W = grow (redrawn w p.d) p.os) → W.rangeAt b o cs := by
  rintro W ⟨p, rfl⟩ j v hj
  exact cell_regrown (h j v hj) p.d p.os

theorem Calls.regrown_same {P : Program} {f : FuncId} {args : Array Value} {w : World} {d : Nat} {os : Array Obj} {v : Value}
    (h : Calls P f args (grow (redrawn w d) os) fun e w' => e = .returned v ∧ w' = grow (redrawn w d) os) : Calls P f args (grow (redrawn w d) os) fun e w'' => e = .returned v ∧ ∃ p : Regrown, w'' = grow (redrawn w p.d) p.os :=
  h.mono fun _ _ ⟨he, hb⟩ => ⟨he, ⟨d, os⟩, hb⟩

set_option maxHeartbeats 2000000 in
set_option maxRecDepth 100000 in
theorem setCharge0 (st : List Value) (ptp : Bool) (h : IsSet st ptp) (w : World) :
    Calls Yba.prog 13 #[.agg st.toArray, .int .i64 0] w fun e w' => e = .returned (.int .i64 1024) ∧ Below w.heap.size w w' := by
  have hr : (w.alloc (.cells st.toArray 50)).rangeAt w.heap.size 0 st := fun j v hj => by rw [Nat.zero_add]; exact boxCell w st j v hj
  have HR := hideIt (range_regrown hr)
  have HL := hideIt h.len
  have c18 := fun d os => Calls.regrown_of (trailer_any st ptp h (grow (redrawn (w.alloc (.cells st.toArray 50)) d) os))
  have c19 := fun d os => Calls.regrown_of (epochLen_any st ptp h (grow (redrawn (w.alloc (.cells st.toArray 50)) d) os))
  have c20 := fun d os => Calls.regrown_of (headers_any st ptp h (grow (redrawn (w.alloc (.cells st.toArray 50)) d) os))
  have c17 := fun d os => Ybulkashs.Calls.regrown_same (charge0 (grow (redrawn (w.alloc (.cells st.toArray 50)) d) os))
  have H18 := hideIt c18
  have H19 := hideIt c19
  have H20 := hideIt c20
  have H17 := hideIt c17
  clear c18 c19 c20 c17 hr h
  go_enter Yba.func13, Yba.ntmps13
  go_wp2_with fail
  refine wp_region_quiet_below (by kernel_rfl) (by kernel_rfl) ?_
  repeat (first | (refine wpQuiet_load50 w.heap.size 0 st rfl HR.out HL.out ?_) | (quiet_step (first | (go_at_call 18; exact H18.out _ _) | (go_at_call 19; exact H19.out _ _) | (go_at_call 20; exact H20.out _ _) | (go_at_call 17; exact H17.out _ _))))
  refine wpQuiet_nil ?_
  intro _ hw'
  obtain ⟨⟨dq, osq⟩, hw''⟩ := hw'
  subst hw''
  go_wp2
  go_ret
  exact ⟨rfl, ((Below.refl _ _).alloc (Nat.le_refl _) _).trans ((below_regrown _ dq osq).mono (by simp))⟩

theorem wpList_load50 {ops : Array Oper} {rest : List Oper} {op : Oper} {a : Act} {w : World} {Q : Exit → Act → World → Prop} (hgd : op.guard = none) (x : Operand) (ho : op.op = .load 50 x)
    (b o : Nat) (hx : a.eval x = .pointer (some ⟨b, o, none⟩)) (st : List Value) (hl : st.length = 17) (hc : w.rangeAt b o st)
    (h : wpList Yba.prog ops Q rest (a.put op.dst (.agg st.toArray)) w) : wpList Yba.prog ops Q (op :: rest) a w := by
  obtain ⟨d, hu, hd⟩ := Yba.isRow50
  exact wpList_load_mid hgd 50 x ho b o hx st d hc hu hd (by rw [hl]; exact Yba.size50) h

theorem range_below {w w' : World} {b o : Nat} {cs : List Value} (h : w.rangeAt b o cs) (hb : Below w.heap.size w w') : w'.rangeAt b o cs := fun j v hj => by
  have h1 := h j v hj
  rw [hb.cell (p := ⟨b, o + j, none⟩) (World.block_lt_of_cell? w _ h1)]
  exact h1

set_option maxHeartbeats 2000000 in
set_option maxRecDepth 100000 in
theorem footprint0 (st : List Value) (ptp : Bool) (h : IsSet st ptp) (m o : Nat) (w : World) (hr : w.rangeAt m o st) :
    Calls Yba.prog 22 #[.pointer (some ⟨m, o, none⟩), .int .i64 0] w fun e w' => e = .returned (.int .i64 1024) ∧ Below w.heap.size w w' := by
  have HR := hideIt hr
  have HS := hideIt h
  clear hr h
  go_enter Yba.func22, Yba.ntmps22
  go_wp2_with (refine wpList_load50 rfl (.tmp 7) rfl m o rfl st HS.out.len HR.out ?_)
  refine (setCharge0 st ptp HS.out _).mono ?_
  rintro e w1 ⟨rfl, hb1⟩
  have HR1 := hideIt (range_below HR.out hb1)
  go_wp2_with (refine wpList_load50 rfl (.tmp 12) rfl m o rfl st HS.out.len HR1.out ?_)
  refine (large_any st ptp HS.out 0 (by omega) _).mono ?_
  rintro e w2 ⟨rfl, hb2⟩
  have hres : w2.cell? ⟨m, o + 5, none⟩ = some (.int .i64 0) := range_below HR1.out hb2 5 _ HS.out.c5
  go_wp2
  go_ret
  exact ⟨rfl, hb1.trans (hb2.mono hb1.size)⟩

set_option maxHeartbeats 2000000 in
set_option maxRecDepth 100000 in
theorem posts_any (st : List Value) (ptp : Bool) (h : IsSet st ptp) (n : Int) (w : World) :
    Calls Yba.prog 6 #[.agg st.toArray, .int .i64 n] w fun e w' => e = .returned (.int .i64 0) ∧ Below w.heap.size w w' := by
  have hr : (w.alloc (.cells st.toArray 50)).rangeAt w.heap.size 0 st := fun j v hj => by rw [Nat.zero_add]; exact boxCell w st j v hj
  have HR := hideIt hr
  have HS := hideIt h
  have h1 := boxCell w st 1 _ h.c1
  clear hr h
  go_enter Yba.func6, Yba.ntmps6
  go_wp2_with (refine wpList_load50 rfl (.tmp 2) rfl w.heap.size 0 rfl st HS.out.len HR.out ?_)
  refine (large_any st ptp HS.out 1024 (by omega) _).mono ?_
  rintro e w2 ⟨rfl, hb2⟩
  go_wp2
  go_ret
  exact ⟨rfl, ((Below.refl _ _).alloc (Nat.le_refl _) _).trans (hb2.mono (by simp))⟩
end Go.Proofs.Ybulkashs
