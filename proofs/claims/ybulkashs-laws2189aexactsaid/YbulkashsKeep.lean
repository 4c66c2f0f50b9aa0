/- The walks of history.slot (25), history.keep (21), Member.keep (15). -/
import Derived.Test.YbulkashsSq
namespace Go.Proofs.Ybulkashs
open Go.RowKit Go.Sort

/-- w' is w but for new blocks and for the cells 55 to 58 of block m. -/
structure KeptM (m : Nat) (w w' : World) : Prop where
  os : w'.os = w.os
  tape : w'.tape = w.tape
  output : w'.output = w.output
  size : w.heap.size ≤ w'.heap.size
  block : ∀ b, b < w.heap.size → b ≠ m → w'.heap[b]? = w.heap[b]?
  cell : ∀ k, (k < 55 ∨ 58 < k) → w'.cell? ⟨m, k, none⟩ = w.cell? ⟨m, k, none⟩
  frozen : ∀ k, w'.frozen? ⟨m, k, none⟩ = w.frozen? ⟨m, k, none⟩

theorem keptM_grown {m n : Nat} {w w1 : World} (h : (w.drewN n).grownBy w1 none) (hm : m < w.heap.size) : KeptM m w w1 :=
  ⟨h.os, h.tape, h.output, h.size, fun b hb _ => h.block b hb (by simp), fun k _ => World.cell?_of_block (a := ⟨m, k, none⟩) (h.block m hm (by simp)), fun k => World.frozen?_of_block (a := ⟨m, k, none⟩) (h.block m hm (by simp))⟩

theorem KeptM.setM {m k : Nat} {w w' : World} (h : KeptM m w w') (hk : 55 ≤ k ∧ k ≤ 58) (v : Value) : KeptM m w (w'.setCell ⟨m, k, none⟩ v) :=
  ⟨h.os, h.tape, h.output, by simpa [World.setCell] using h.size, fun b hb hbm => by rw [Below.heap_setCell _ _ _ _ hbm]; exact h.block b hb hbm,
    fun j hj => (World.cell?_setCell_other _ _ ⟨m, j, none⟩ _ (fun e => by injection e; omega)).trans (h.cell j hj), fun j => by rw [World.frozen?_setCell]; exact h.frozen j⟩

theorem KeptM.setNew {m c : Nat} {w w' : World} (h : KeptM m w w') (hm : m < w.heap.size) (hc : w.heap.size ≤ c) (k : Nat) (v : Value) : KeptM m w (w'.setCell ⟨c, k, none⟩ v) :=
  ⟨h.os, h.tape, h.output, by simpa [World.setCell] using h.size, fun b hb hbm => by rw [Below.heap_setCell _ _ _ _ (show b ≠ c by omega)]; exact h.block b hb hbm,
    fun j hj => (World.cell?_setCell_other _ _ ⟨m, j, none⟩ _ (fun e => by injection e; omega)).trans (h.cell j hj), fun j => by rw [World.frozen?_setCell]; exact h.frozen j⟩

theorem KeptM.drewN {m : Nat} {w w' : World} (h : KeptM m w w') (n : Nat) : KeptM m w (w'.drewN n) := ⟨h.os, h.tape, h.output, h.size, h.block, h.cell, h.frozen⟩

theorem slot0 (m rb : Nat) (w : World) (h56 : w.cell? ⟨m, 56, none⟩ = some (.int .i64 0)) (h55 : w.cell? ⟨m, 55, none⟩ = some (.slice (some ⟨rb, 0, none⟩) 16 16)) :
    Calls Yba.prog 25 #[.pointer (some ⟨m, 54, none⟩), .int .i64 0] w fun e w' => e = .returned (.int .i64 0) ∧ ∃ n, w' = w.drewN n := by
  go_enter Yba.func25, Yba.ntmps25
  go_wp2
  go_quiet (fail)
  go_wp2
  go_ret
  exact ⟨rfl, _, rfl⟩

theorem Yba.info127 : (Yba.prog.info? 127).map (fun i => (i.zero, i.size, i.bytes)) = some (some (.agg #[.pointer none, .int .i64 0]), 2, 16) := by kernel_rfl

set_option maxHeartbeats 1000000 in
set_option maxRecDepth 100000 in
theorem hkeep (m db : Nat) (w : World) (hm : m < w.heap.size) (h55 : w.cell? ⟨m, 55, none⟩ = some (.slice none 0 0)) (h56 : w.cell? ⟨m, 56, none⟩ = some (.int .i64 0))
    (h57 : w.cell? ⟨m, 57, none⟩ = some (.int .i64 0)) (h58 : w.cell? ⟨m, 58, none⟩ = some (.int .i64 0)) (hf : ∀ k, w.frozen? ⟨m, k, none⟩ = false) :
    Calls Yba.prog 21 #[.pointer (some ⟨m, 54, none⟩), .pointer (some ⟨db, 0, none⟩), .int .i64 1024] w fun e w' => e = .returned (.tuple #[]) ∧ KeptM m w w' := by
  obtain ⟨i0, hi, hz0, hz1, hz2⟩ := info_parts Yba.info127
  go_enter Yba.func21, Yba.ntmps21
  go_wp2
  go_quiet (fail)
  go_wp2_with (at_make; refine wpList_make_full _ rfl _ _ 54 rfl w.heap.size 127 i0 (.agg #[.pointer none, .int .i64 0]) 2 Yba.underlying54 hi hz0 hz1 _ _ _ _ 16 rfl rfl (by decide) (by decide) ?b2 ?b3 ?b4 ?_)
  case b2 => rw [hz2]; omega
  case b3 => unfold maxLen; omega
  case b4 => simp
  intro w1 hown1 hgrow1
  have g55 : w1.cell? ⟨m, 55, none⟩ = some (.slice none 0 0) := hgrow1.cell (a := ⟨m, 55, none⟩) h55 (by simp)
  have g56 : w1.cell? ⟨m, 56, none⟩ = some (.int .i64 0) := hgrow1.cell (a := ⟨m, 56, none⟩) h56 (by simp)
  have g57 : w1.cell? ⟨m, 57, none⟩ = some (.int .i64 0) := hgrow1.cell (a := ⟨m, 57, none⟩) h57 (by simp)
  have g58 : w1.cell? ⟨m, 58, none⟩ = some (.int .i64 0) := hgrow1.cell (a := ⟨m, 58, none⟩) h58 (by simp)
  have gf : ∀ k, w1.frozen? ⟨m, k, none⟩ = false := fun k => (World.frozen?_of_block (a := ⟨m, k, none⟩) (hgrow1.block m hm (by simp))).trans (hf k)
  have HO := hideIt hown1
  have HG := hideIt hgrow1
  have H0 := hideIt hf
  clear hown1 hgrow1 h55 h56 h57 h58 hf
  go_wp2_with fail
  refine wp_loop_rounds 1 ?_
  rw [rounds_succ]
  go_wp2_with fail
  obtain ⟨cur, HC, HCS⟩ : ∃ cur : Array Value, Hid (w1.heap[w.heap.size]? = some (.cells cur 127 (0, 0))) ∧ Hid (cur.size = 32) := by
    rcases HO.out.2 with ⟨hv, _⟩ | ⟨g, cap, cur, hv, _, hg, _, _, hcs, _⟩
    · cases hv
    · cases hv
      exact ⟨cur, hg, hcs⟩
  have hne : m ≠ w.heap.size := by omega
  have r0 : ∃ v, w1.cell? ⟨w.heap.size, 0, none⟩ = some v := ⟨cur[0]'(by rw [HCS.out]; omega), by rw [cell_of_row w1 w.heap.size 0 cur 127 (0, 0) HC.out]; exact Array.getElem?_eq_getElem _⟩
  have r1 : ∃ v, w1.cell? ⟨w.heap.size, 1, none⟩ = some v := ⟨cur[1]'(by rw [HCS.out]; omega), by rw [cell_of_row w1 w.heap.size 1 cur 127 (0, 0) HC.out]; exact Array.getElem?_eq_getElem _⟩
  have rf : ∀ k, w1.frozen? ⟨w.heap.size, k, none⟩ = false := fun k => by simp [World.frozen?, HC.out]
  obtain ⟨W2, hW2⟩ : ∃ W2, W2 = (w1.setCell ⟨m, 55, none⟩ (.slice (some ⟨w.heap.size, 0, none⟩) 16 16)).setCell ⟨m, 56, none⟩ (.int .i64 0) := ⟨_, rfl⟩
  rw [← hW2]
  have s55 : W2.cell? ⟨m, 55, none⟩ = some (.slice (some ⟨w.heap.size, 0, none⟩) 16 16) := by
    rw [hW2, World.cell?_setCell_other _ _ _ _ (by simp), World.cell?_setCell_same _ _ _ g55]
  have s56 : W2.cell? ⟨m, 56, none⟩ = some (.int .i64 0) := by
    rw [hW2]
    exact World.cell?_setCell_same _ _ _ (show (w1.setCell ⟨m, 55, none⟩ _).cell? ⟨m, 56, none⟩ = some (.int .i64 0) by rw [World.cell?_setCell_other _ _ _ _ (by simp)]; exact g56)
  have so : ∀ b k, b ≠ m ∨ (k ≠ 55 ∧ k ≠ 56) → W2.cell? ⟨b, k, none⟩ = w1.cell? ⟨b, k, none⟩ := fun b k hk => by
    rw [hW2, World.cell?_setCell_other _ _ _ _ (by simp; omega), World.cell?_setCell_other _ _ _ _ (by simp; omega)]
  have sf : ∀ b k, W2.frozen? ⟨b, k, none⟩ = w1.frozen? ⟨b, k, none⟩ := fun b k => by rw [hW2, World.frozen?_setCell, World.frozen?_setCell]
  have s57 : W2.cell? ⟨m, 57, none⟩ = some (.int .i64 0) := (so m 57 (by omega)).trans g57
  have s58 : W2.cell? ⟨m, 58, none⟩ = some (.int .i64 0) := (so m 58 (by omega)).trans g58
  have mf : ∀ k, W2.frozen? ⟨m, k, none⟩ = false := fun k => (sf m k).trans (gf k)
  obtain ⟨v0, hv0⟩ := r0
  obtain ⟨v1, hv1⟩ := r1
  have t0 : W2.cell? ⟨w.heap.size, 0, none⟩ = some v0 := (so _ 0 (by omega)).trans hv0
  have t1 : W2.cell? ⟨w.heap.size, 1, none⟩ = some v1 := (so _ 1 (by omega)).trans hv1
  have tf : ∀ k, W2.frozen? ⟨w.heap.size, k, none⟩ = false := fun k => (sf _ k).trans (rf k)
  have HW := hideIt hW2
  have HSO := hideIt so
  have HSF := hideIt sf
  clear hW2 so sf g55 g56 g57 g58 gf rf hv0 hv1
  have ap : ∀ (W : World) (k j : Nat) (v : Value), (W.setCell ⟨w.heap.size, j, none⟩ v).cell? ⟨m, k, none⟩ = W.cell? ⟨m, k, none⟩ := fun W k j v => World.cell?_setCell_other _ _ ⟨m, k, none⟩ _ (fun e => by injection e; omega)
  go_region_held3 (fun W => W.cell? ⟨m, 55, none⟩ = some (.slice (some ⟨w.heap.size, 0, none⟩) 16 16) ∧ W.cell? ⟨m, 56, none⟩ = some (.int .i64 0) ∧ W.cell? ⟨m, 57, none⟩ = some (.int .i64 0)) (go_keep)
    (first | (go_at_call 25; refine (slot0 m w.heap.size _ (by simp [*]) (by simp [*])).mono ?_; rintro e w' ⟨rfl, n, rfl⟩))
  go_wp2
  go_end0
  refine ⟨rfl, ?_⟩
  have k1 : KeptM m w w1 := keptM_grown HG.out hm
  rw [HW.out]
  exact (((((((k1.setM (k := 55) (by omega) _).setM (k := 56) (by omega) _).drewN _).setNew hm (Nat.le_refl _) _ _).setNew hm (Nat.le_refl _) _ _).setM (k := 57) (by omega) _).setM (k := 58) (by omega) _)

theorem allCall {ops : Array Oper} {Q : Exit → Act → World → Prop} {S : World → Prop} {fuel : Nat} {listed : Array Bool} {a : Act} {w : World} (i : Nat) {oi : Oper} (d : Option Tmp) (f : FuncId) (args : Array Value) (hi : ops[i]? = some oi) (hd : oi.dst = d)
    (hr : Region.ready .any ops listed = [i]) (hw : Region.wanted oi (yielded ops a.tmps) = true) (hrun : (execOp a.eval oi).run Yba.prog w = .ok (.enter f args) w)
    (h : Calls Yba.prog f args w fun e w' => ∃ v, e = .returned v ∧ S w' ∧ wpAnyH Yba.prog .any ops Q S fuel (listed.setIfInBounds i true) (a.put d v) w') : wpAnyH Yba.prog .any ops Q S (fuel + 1) listed a w := by
  refine wpAnyH_all hr (by simp) ?_
  intro j hj
  simp only [List.mem_singleton] at hj
  subst hj
  unfold wpOp
  simp only [hi, hw, if_true]
  refine .inl ?_
  subst hd
  unfold Oper.wp
  rw [hrun]
  refine h.mono ?_
  rintro e w' ⟨v, rfl, h1, h2⟩
  exact ⟨h1, h2⟩

theorem allVal {ops : Array Oper} {Q : Exit → Act → World → Prop} {S : World → Prop} {fuel : Nat} {listed : Array Bool} {a : Act} {w : World} (i : Nat) {oi : Oper} (d : Option Tmp) (v : Value) (w' : World) (hi : ops[i]? = some oi) (hd : oi.dst = d)
    (hr : Region.ready .any ops listed = [i]) (hw : Region.wanted oi (yielded ops a.tmps) = true) (hrun : (execOp a.eval oi).run Yba.prog w = .ok (.value v) w') (hS : S w')
    (h : wpAnyH Yba.prog .any ops Q S fuel (listed.setIfInBounds i true) (a.put d v) w') : wpAnyH Yba.prog .any ops Q S (fuel + 1) listed a w := by
  refine wpAnyH_all hr (by simp) ?_
  intro j hj
  simp only [List.mem_singleton] at hj
  subst hj
  unfold wpOp
  simp only [hi, hw, if_true]
  refine .inl ?_
  subst hd
  unfold Oper.wp
  rw [hrun]
  exact ⟨hS, h⟩

theorem KeptM.after {m : Nat} {w w1 w2 : World} (h : KeptM m w1 w2) (hb : Below w.heap.size w w1) (hm : m < w.heap.size) : KeptM m w w2 :=
  ⟨h.os.trans hb.os, h.tape.trans hb.tape, h.output.trans hb.output, Nat.le_trans hb.size h.size, fun b hlt hne => (h.block b (Nat.lt_of_lt_of_le hlt hb.size) hne).trans (hb.block b hlt),
    fun k hk => (h.cell k hk).trans (hb.cell (p := ⟨m, k, none⟩) hm), fun k => (h.frozen k).trans (hb.frozen (p := ⟨m, k, none⟩) hm)⟩

set_option maxHeartbeats 1000000 in
set_option maxRecDepth 100000 in
theorem mkeep (m db : Nat) (st : List Value) (ptp : Bool) (hs : IsSet st ptp) (w : World) (hm : m < w.heap.size) (hst : w.rangeAt m 19 st) (hpay : w.cell? ⟨db, 38, none⟩ = some (.slice none 0 0))
    (h55 : w.cell? ⟨m, 55, none⟩ = some (.slice none 0 0)) (h56 : w.cell? ⟨m, 56, none⟩ = some (.int .i64 0))
    (h57 : w.cell? ⟨m, 57, none⟩ = some (.int .i64 0)) (h58 : w.cell? ⟨m, 58, none⟩ = some (.int .i64 0)) (hf : ∀ k, w.frozen? ⟨m, k, none⟩ = false) :
    Calls Yba.prog 15 #[.pointer (some ⟨m, 0, none⟩), .pointer (some ⟨db, 0, none⟩)] w fun e w' => e = .returned (.tuple #[]) ∧ KeptM m w w' := by
  go_enter Yba.func15, Yba.ntmps15
  go_wp2_with fail
  refine wp_region_held (S := fun _ => True) (by kernel_rfl) ?_
  refine takeV 0 4 (.pointer (some ⟨m, 0, none⟩)) rfl rfl (by kernel_rfl) (by kernel_rfl) (by kernel_rfl) (fun _ _ _ h => h) (by kernel_rfl) (by intro W hW; go_simp) trivial ?_
  refine takeV 1 5 (.pointer (some ⟨m, 0, none⟩)) rfl rfl (by kernel_rfl) (by kernel_rfl) (by kernel_rfl) (fun _ _ _ h => h) (by kernel_rfl) (by intro W hW; go_simp) trivial ?_
  refine takeV 2 6 (.pointer (some ⟨m, 54, none⟩)) rfl rfl (by kernel_rfl) (by kernel_rfl) (by kernel_rfl) (fun _ _ _ h => h) (by kernel_rfl) (by intro W hW; go_simp) trivial ?_
  refine takeV 3 7 (.pointer (some ⟨db, 0, none⟩)) rfl rfl (by kernel_rfl) (by kernel_rfl) (by kernel_rfl) (fun _ _ _ h => h) (by kernel_rfl) (by intro W hW; go_simp) trivial ?_
  refine takeV 4 8 (.pointer (some ⟨m, 0, none⟩)) rfl rfl (by kernel_rfl) (by kernel_rfl) (by kernel_rfl) (fun _ _ _ h => h) (by kernel_rfl) (by intro W hW; go_simp) trivial ?_
  refine takeV 5 9 (.pointer (some ⟨m, 0, none⟩)) rfl rfl (by kernel_rfl) (by kernel_rfl) (by kernel_rfl) (fun _ _ _ h => h) (by kernel_rfl) (by intro W hW; go_simp) trivial ?_
  refine takeV 6 10 (.pointer (some ⟨m, 19, none⟩)) rfl rfl (by kernel_rfl) (by kernel_rfl) (by kernel_rfl) (fun _ _ _ h => h) (by kernel_rfl) (by intro W hW; go_simp) trivial ?_
  refine takeV 7 11 (.pointer (some ⟨db, 0, none⟩)) rfl rfl (by kernel_rfl) (by kernel_rfl) (by kernel_rfl) (fun _ _ _ h => h) (by kernel_rfl) (by intro W hW; go_simp) trivial ?_
  refine takeV 8 12 (.pointer (some ⟨db, 0, none⟩)) rfl rfl (by kernel_rfl) (by kernel_rfl) (by kernel_rfl) (fun _ _ _ h => h) (by kernel_rfl) (by intro W hW; go_simp) trivial ?_
  refine takeV 9 13 (.pointer (some ⟨db, 38, none⟩)) rfl rfl (by kernel_rfl) (by kernel_rfl) (by kernel_rfl) (fun _ _ _ h => h) (by kernel_rfl) (by intro W hW; go_simp) trivial ?_
  refine allVal 10 (some 14) (.slice none 0 0) w.drew rfl rfl (by kernel_rfl) (by kernel_rfl) (by go_simp) trivial ?_
  refine takeV 11 15 (.int .i64 0) rfl rfl (by kernel_rfl) (by kernel_rfl) (by kernel_rfl) (fun _ _ _ h => h) (by kernel_rfl) (by intro W hW; go_simp) trivial ?_
  refine allCall 12 (some 16) 22 #[.pointer (some ⟨m, 19, none⟩), .int .i64 0] rfl rfl (by kernel_rfl) (by kernel_rfl) (by go_simp) ?_
  refine (footprint0 st ptp hs m 19 w.drew hst).mono ?_
  rintro e w1 ⟨rfl, hb1⟩
  refine ⟨_, rfl, trivial, ?_⟩
  have hb : Below w.heap.size w w1 := ⟨hb1.os, hb1.tape, hb1.output, hb1.size, hb1.block⟩
  refine allCall 13 (some 17) 21 #[.pointer (some ⟨m, 54, none⟩), .pointer (some ⟨db, 0, none⟩), .int .i64 1024] rfl rfl (by kernel_rfl) (by kernel_rfl) (by go_simp) ?_
  refine (hkeep m db w1 (Nat.lt_of_lt_of_le hm hb.size) (by rw [hb.cell hm]; exact h55) (by rw [hb.cell hm]; exact h56) (by rw [hb.cell hm]; exact h57) (by rw [hb.cell hm]; exact h58) (fun k => by rw [hb.frozen hm]; exact hf k)).mono ?_
  rintro e w2 ⟨rfl, hk⟩
  refine ⟨_, rfl, trivial, ?_⟩
  refine wpAnyH_done (by kernel_rfl) ?_ _
  go_wp2
  go_end0
  exact ⟨rfl, hk.after hb hm⟩
end Go.Proofs.Ybulkashs
