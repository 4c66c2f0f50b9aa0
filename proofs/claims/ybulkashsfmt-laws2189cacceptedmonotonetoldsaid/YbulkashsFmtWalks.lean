/- The walks of LawS2189CNoSequencer (function 3), LawS2189CAcceptedMonotone (function 4) and of mayDeliver (function 5) at a member without a sequencer. -/
import Derived.Test.YbulkashsFmtRows
import Derived.WalkKit
import Derived.WalkSpells
import Derived.WalkLawsBesides
import Derived.Great.Ranges
import Derived.Great.BuildSlice
namespace Go.Proofs.YbulkashsFmt
open Go.RowKit

/-- What mayDeliver answers where there is no sequencer. -/
def mayB (r acc seq : Int) : Bool := r == 0 || decide (seq ≤ acc)

/-- A member in block b: its resilience, the last event accepted, no sequencer. -/
def IsMem (w : World) (b : Nat) (r acc : Int) : Prop :=
  w.cell? ⟨b, 24, none⟩ = some (.int .i64 r) ∧ w.cell? ⟨b, 62, none⟩ = some (.int .u64 acc) ∧ w.cell? ⟨b, 198, none⟩ = some (.pointer none)

set_option maxHeartbeats 1000000 in
set_option maxRecDepth 100000 in
theorem may_any (b : Nat) (r acc seq : Int) (w : World) (h : IsMem w b r acc) :
    Calls Ybaf.prog 5 #[.pointer (some ⟨b, 0, none⟩), .int .u64 seq] w fun e w' => e = .returned (.bool (mayB r acc seq)) ∧ w' = w := by
  obtain ⟨h1, h2, h3⟩ := h
  by_cases hr : r = 0
  · subst hr
    go_enter Ybaf.func5, Ybaf.ntmps5
    go_wp2
    go_ret
    exact ⟨by simp [mayB], rfl⟩
  · have hr' : (r == 0) = false := by simpa using hr
    by_cases hs : seq ≤ acc
    · go_enter Ybaf.func5, Ybaf.ntmps5
      go_wp2
      go_ret
      exact ⟨by simp [mayB, hs], rfl⟩
    · go_enter Ybaf.func5, Ybaf.ntmps5
      go_wp2
      go_ret
      exact ⟨by simp [mayB, hs, hr'], rfl⟩

/-- The settings with their resilience, as they are built. -/
def setCells (r : Int) : Array Value :=
  #[.int .i64 0, .int .i64 0, .int .i64 0, .int .i64 0, .int .i64 0, .int .i64 r, .int .i64 0, .bool false, .bool false, .bool false, .bool false, .bool false, .int .u64 0, .int .u64 0, .pointer none, .int .u16 0, .int .i64 0]

theorem mem_ex (r acc : Int) : ∃ cells, Ybaf.prog.built 80 [(11, .agg (setCells r)), (31, .int .u64 acc)] = some cells ∧ cells[24]? = some (.int .i64 r) ∧ cells[62]? = some (.int .u64 acc) ∧ cells[198]? = some (.pointer none) :=
  ⟨(Ybaf.prog.built 80 [(11, .agg (setCells r)), (31, .int .u64 acc)]).getD #[], by kernel_rfl, by kernel_rfl, by kernel_rfl, by kernel_rfl⟩

theorem hideIt {p : Prop} (h : p) : Hid p := h

theorem built_eq {t : TypeId} {L L' : List (Nat × Value)} {cells : Array Value} (h : Ybaf.prog.built t L = some cells) (e : L' = L) : Ybaf.prog.built t L' = some cells := by rw [e]; exact h

theorem isMem_new {r acc : Int} {cells : Array Value} (h1 : cells[24]? = some (.int .i64 r)) (h2 : cells[62]? = some (.int .u64 acc)) (h3 : cells[198]? = some (.pointer none)) (w : World) : IsMem (w.alloc (.cells cells 80)) w.heap.size r acc :=
  ⟨by rw [World.cell?_alloc_mark]; exact h1, by rw [World.cell?_alloc_mark]; exact h2, by rw [World.cell?_alloc_mark]; exact h3⟩

theorem model_any (r acc seq : Int) (w : World) :
    Calls Ybaf.prog 6 #[.int .i64 r, .int .u64 acc, .int .u64 seq] w fun e w' => e = .returned (.bool (mayB r acc seq)) ∧ w' = w := by
  by_cases hr : r = 0
  · subst hr
    go_enter Ybaf.func6, Ybaf.ntmps6
    go_wp2
    go_ret
    exact ⟨by simp [mayB], rfl⟩
  · have hr' : (r == 0) = false := by simpa using hr
    go_enter Ybaf.func6, Ybaf.ntmps6
    go_wp2
    go_ret
    exact ⟨by simp [mayB, hr'], rfl⟩

set_option maxHeartbeats 1000000 in
set_option maxRecDepth 100000 in
theorem noSeq_any (r acc seq : Int) (w : World) :
    Calls Ybaf.prog 3 #[.int .i64 r, .int .u64 acc, .int .u64 seq] w fun e w' => e = .returned (.bool true) ∧ Below w.heap.size w w' := by
  obtain ⟨cells, hb, c1, c2, c3⟩ := mem_ex r acc
  have HB : Hid (Ybaf.prog.built 80 [(11, .agg (setCells r)), (31, .int .u64 acc)] = some cells) := hb
  have HM : Hid (IsMem (w.alloc (.cells cells 80)) w.heap.size r acc) := isMem_new c1 c2 c3 w
  clear hb c1 c2 c3
  go_enter Ybaf.func3, Ybaf.ntmps3
  go_wp2_with (refine wpList_buildTo rfl 80 #[(11, .tmp 9), (31, .tmp 10)] rfl _ rfl cells (built_eq HB.out (by kernel_rfl)) ?_)
  refine (may_any w.heap.size r acc seq _ HM.out).mono ?_
  rintro e w1 ⟨rfl, rfl⟩
  go_wp2_with fail
  refine (model_any r acc seq _).mono ?_
  rintro e w2 ⟨rfl, rfl⟩
  go_wp2
  go_ret
  exact ⟨by simp, (Below.refl _ _).alloc (Nat.le_refl _) _⟩

theorem isMem_alloc {w : World} {b : Nat} {r acc : Int} (h : IsMem w b r acc) (hb : b < w.heap.size) (o : Obj) : IsMem (w.alloc o) b r acc := by
  have e : ∀ k, (w.alloc o).cell? ⟨b, k, none⟩ = w.cell? ⟨b, k, none⟩ := fun k => World.cell?_of_block (Below.heap_alloc w o b hb)
  unfold IsMem
  rw [e, e, e]
  exact h

theorem mayB_mono (r acc up seq : Int) (h : acc ≤ up) (hm : mayB r acc seq = true) : mayB r up seq = true := by
  unfold mayB at *
  simp at *
  omega
theorem mayB_self (r up : Int) : mayB r up up = true := by simp [mayB]

set_option maxHeartbeats 2000000 in
set_option maxRecDepth 100000 in
theorem mono_any (r acc seq d : Int) (w : World) (hd : 0 ≤ d) (hd' : d ≤ 255) :
    Calls Ybaf.prog 4 #[.int .i64 r, .int .u64 acc, .int .u64 seq, .int .u8 d] w fun e w' => e = .returned (.bool true) ∧ Below w.heap.size w w' := by
  by_cases hlt : IntKind.u64.wrap (acc + d) < acc
  · go_enter Ybaf.func4, Ybaf.ntmps4
    go_wp2
    go_ret
    exact ⟨rfl, Below.refl _ _⟩
  · have HLE : Hid (acc ≤ IntKind.u64.wrap (acc + d)) := show _ ≤ _ by omega
    obtain ⟨c1, hb1, c11, c12, c13⟩ := mem_ex r acc
    have HB1 : Hid (Ybaf.prog.built 80 [(11, .agg (setCells r)), (31, .int .u64 acc)] = some c1) := hb1
    have HM1 : Hid (IsMem (w.alloc (.cells c1 80)) w.heap.size r acc) := isMem_new c11 c12 c13 w
    obtain ⟨c2, hb2, c21, c22, c23⟩ := mem_ex r (IntKind.u64.wrap (acc + d))
    have HB2 : Hid (Ybaf.prog.built 80 [(11, .agg (setCells r)), (31, .int .u64 (IntKind.u64.wrap (acc + d)))] = some c2) := hb2
    have HM2 : Hid (IsMem ((w.alloc (.cells c1 80)).alloc (.cells c2 80)) (w.heap.size + 1) r (IntKind.u64.wrap (acc + d))) := by
      have := isMem_new c21 c22 c23 (w.alloc (.cells c1 80))
      show IsMem _ _ _ _
      simpa using this
    have HM1' : Hid (IsMem ((w.alloc (.cells c1 80)).alloc (.cells c2 80)) w.heap.size r acc) := isMem_alloc HM1.out (by simp) _
    clear hb1 hb2 c11 c12 c13 c21 c22 c23 HM1
    have HS := hideIt (mayB_self r (IntKind.u64.wrap (acc + d)))
    cases hm : mayB r acc seq with
    | true =>
      have HU := hideIt (mayB_mono r acc _ seq HLE.out hm)
      go_enter Ybaf.func4, Ybaf.ntmps4
      go_wp2_with (first | (refine wpList_buildTo rfl 80 #[(11, .tmp 20), (31, .tmp 21)] rfl _ rfl c1 (built_eq HB1.out (by kernel_rfl)) ?_) | (refine wpList_buildTo rfl 80 #[(11, .tmp 25), (31, .tmp 26)] rfl _ rfl c2 (built_eq HB2.out (by kernel_rfl)) ?_))
      refine (may_any w.heap.size r acc seq _ HM1'.out).mono ?_
      rintro e w1 ⟨rfl, rfl⟩
      rw [hm]
      go_wp2_with fail
      refine (may_any (w.heap.size + 1) r _ seq _ HM2.out).mono ?_
      rintro e w1 ⟨rfl, rfl⟩
      rw [HU.out]
      go_wp2_with fail
      refine (may_any (w.heap.size + 1) r _ _ _ HM2.out).mono ?_
      rintro e w1 ⟨rfl, rfl⟩
      rw [HS.out]
      go_wp2
      go_ret
      exact ⟨rfl, ((Below.refl _ _).alloc (Nat.le_refl _) _).alloc (by simp) _⟩
    | false =>
      go_enter Ybaf.func4, Ybaf.ntmps4
      go_wp2_with (first | (refine wpList_buildTo rfl 80 #[(11, .tmp 20), (31, .tmp 21)] rfl _ rfl c1 (built_eq HB1.out (by kernel_rfl)) ?_) | (refine wpList_buildTo rfl 80 #[(11, .tmp 25), (31, .tmp 26)] rfl _ rfl c2 (built_eq HB2.out (by kernel_rfl)) ?_))
      refine (may_any w.heap.size r acc seq _ HM1'.out).mono ?_
      rintro e w1 ⟨rfl, rfl⟩
      rw [hm]
      go_wp2_with fail
      refine (may_any (w.heap.size + 1) r _ _ _ HM2.out).mono ?_
      rintro e w1 ⟨rfl, rfl⟩
      rw [HS.out]
      go_wp2
      go_ret
      exact ⟨rfl, ((Below.refl _ _).alloc (Nat.le_refl _) _).alloc (by simp) _⟩
end Go.Proofs.YbulkashsFmt
