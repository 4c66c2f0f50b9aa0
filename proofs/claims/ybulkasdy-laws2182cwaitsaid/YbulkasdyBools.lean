/- The walks over slices of bools: Index (27), Contains (20), Equal (14). -/
import Derived.Test.YbulkasdySel
import Derived.LoopTactic
import Derived.Below
import Derived.WalkSpells
import Derived.WalkLawsBesides
namespace Go.Proofs.Ybulkasdy
open Go.RowKit

/-- Does one of the first n hold? -/
def anyTo (f : Nat → Bool) (n : Nat) : Bool := (List.range n).any f

theorem anyTo_succ (f : Nat → Bool) (n : Nat) : anyTo f (n + 1) = (anyTo f n || f n) := by simp [anyTo, List.range_succ]

theorem anyTo_hit {f : Nat → Bool} {n k : Nat} (hk : k < n) (h : f k = true) : anyTo f n = true := by
  simp only [anyTo, List.any_eq_true, List.mem_range]
  exact ⟨k, hk, h⟩

theorem idx27_some (b n c : Nat) (f : Nat → Bool) (w : World) (hn : n ≤ 65536) (hc : ∀ k, k < n → w.cell? ⟨b, k, none⟩ = some (.bool (f k))) :
    Calls Yba.prog 27 #[.slice (some ⟨b, 0, none⟩) n c, .bool true] w fun e w' => (∃ i : Int, e = .returned (.int .i64 i) ∧ (0 ≤ i ∧ i < 65536 ∨ i = -1) ∧ (decide (0 ≤ i)) = anyTo f n) ∧ w' = w := by
  go_enter Yba.func27, Yba.ntmps27
  go_wp2
  go_loop [8] (fun i => ∃ k : Nat, k ≤ n ∧ i = .int .i64 k ∧ anyTo f k = false) (fun i => n - (intOf i).toNat)
  case atStart => exact ⟨0, Nat.zero_le _, rfl, rfl⟩
  case round =>
    obtain ⟨k, hk, rfl, ha⟩ := hrel
    have hcell : k < n → w.cell? ⟨b, k, none⟩ = some (.bool (f k)) := fun h => hc k h
    clear hc
    go_wp2
    · have hlt : k < n := by assumption
      have hf : f k = true := by assumption
      go_ret
      exact ⟨⟨k, rfl, .inl ⟨by omega, by omega⟩, by rw [anyTo_hit hlt hf]; simp⟩, rfl⟩
    · have hlt : k < n := by assumption
      have hf : f k = false := by assumption
      exact ⟨⟨k + 1, by omega, by go_num, by rw [anyTo_succ, ha, hf]; rfl⟩, by simp [intOf]; omega⟩
    · have hge : ¬ k < n := by assumption
      have e : k = n := by omega
      subst e
      go_ret
      exact ⟨⟨-1, rfl, .inr rfl, by rw [ha]; rfl⟩, rfl⟩

theorem idx27_nil (q : Option Addr) (c : Nat) (f : Nat → Bool) (w : World) :
    Calls Yba.prog 27 #[.slice q 0 c, .bool true] w fun e w' => (∃ i : Int, e = .returned (.int .i64 i) ∧ (0 ≤ i ∧ i < 65536 ∨ i = -1) ∧ (decide (0 ≤ i)) = anyTo f 0) ∧ w' = w := by
  go_enter Yba.func27, Yba.ntmps27
  go_wp2
  refine wp_loop_rounds 1 ?_
  rw [rounds_succ]
  go_wp2
  go_ret
  exact ⟨⟨-1, rfl, .inr rfl, rfl⟩, rfl⟩

/-- A slice of n bools. -/
structure IsBools (w : World) (v : Value) (n : Nat) (f : Nat → Bool) : Prop where
  le : n ≤ 256
  is : ∃ q c, v = .slice q n c ∧ (0 < n → ∃ b, q = some ⟨b, 0, none⟩ ∧ ∀ k, k < n → w.cell? ⟨b, k, none⟩ = some (.bool (f k)))

theorem con20 (v : Value) (n : Nat) (f : Nat → Bool) (w : World) (h : IsBools w v n f) :
    Calls Yba.prog 20 #[v, .bool true] w fun e w' => e = .returned (.bool (anyTo f n)) ∧ w' = w := by
  obtain ⟨hn, q, c, rfl, hq⟩ := h
  have key : Calls Yba.prog 27 #[.slice q n c, .bool true] w fun e w' => (∃ i : Int, e = .returned (.int .i64 i) ∧ (0 ≤ i ∧ i < 65536 ∨ i = -1) ∧ (decide (0 ≤ i)) = anyTo f n) ∧ w' = w := by
    rcases Nat.eq_zero_or_pos n with rfl | hp
    · exact idx27_nil q c f w
    · obtain ⟨b, rfl, hc⟩ := hq hp
      exact idx27_some b n c f w (by omega) hc
  clear hq
  go_enter Yba.func20, Yba.ntmps20
  go_wp2_with fail
  refine key.mono ?_
  rintro e w1 ⟨⟨i, rfl, hi, ha⟩, rfl⟩
  go_wp2_with fail
  go_ret
  exact ⟨by rw [← ha]; simp, rfl⟩

theorem eq14_some (b1 b2 n c1 c2 : Nat) (f : Nat → Bool) (w : World) (hn : n ≤ 256) (h1 : ∀ k, k < n → w.cell? ⟨b1, k, none⟩ = some (.bool (f k))) (h2 : ∀ k, k < n → w.cell? ⟨b2, k, none⟩ = some (.bool (f k))) :
    Calls Yba.prog 14 #[.slice (some ⟨b1, 0, none⟩) n c1, .slice (some ⟨b2, 0, none⟩) n c2] w fun e w' => e = .returned (.bool true) ∧ Below w.heap.size w w' := by
  go_enter Yba.func14, Yba.ntmps14
  go_wp2
  go_loopw [13] (fun i wr => ∃ k : Nat, k ≤ n ∧ i = .int .i64 k ∧ Below w.heap.size w wr) (fun i _ => n - (intOf i).toNat)
  case atStart => exact ⟨0, Nat.zero_le _, rfl, Below.refl _ _⟩
  case round =>
    obtain ⟨k, hk, rfl, hb⟩ := hrel
    by_cases hlt : k < n
    · have g1 : wr.cell? ⟨b1, k, none⟩ = some (.bool (f k)) := by rw [hb.cell (World.block_lt_of_cell? w _ (h1 k hlt))]; exact h1 k hlt
      have g2 : wr.cell? ⟨b2, k, none⟩ = some (.bool (f k)) := by rw [hb.cell (World.block_lt_of_cell? w _ (h2 k hlt))]; exact h2 k hlt
      clear h1 h2
      go_wp2
      go_region
      go_wp2
      go_roundw
      case rel => exact ⟨k + 1, by omega, by go_num, hb.drew⟩
      case measure => simp [intOf]; omega
    · clear h1 h2
      go_wp2
      go_ret
      exact ⟨rfl, hb⟩

theorem eq14_nil (q1 q2 : Option Addr) (c1 c2 : Nat) (w : World) :
    Calls Yba.prog 14 #[.slice q1 0 c1, .slice q2 0 c2] w fun e w' => e = .returned (.bool true) ∧ Below w.heap.size w w' := by
  go_enter Yba.func14, Yba.ntmps14
  go_wp2
  refine wp_loop_rounds 1 ?_
  rw [rounds_succ]
  go_wp2
  go_ret
  exact ⟨rfl, Below.refl _ _⟩

theorem eq14 (v1 v2 : Value) (n : Nat) (f : Nat → Bool) (w : World) (h1 : IsBools w v1 n f) (h2 : IsBools w v2 n f) :
    Calls Yba.prog 14 #[v1, v2] w fun e w' => e = .returned (.bool true) ∧ Below w.heap.size w w' := by
  obtain ⟨hn, q1, c1, rfl, hq1⟩ := h1
  obtain ⟨_, q2, c2, rfl, hq2⟩ := h2
  rcases Nat.eq_zero_or_pos n with rfl | hp
  · exact eq14_nil q1 q2 c1 c2 w
  · obtain ⟨b1, rfl, hc1⟩ := hq1 hp
    obtain ⟨b2, rfl, hc2⟩ := hq2 hp
    exact eq14_some b1 b2 n c1 c2 f w hn hc1 hc2
end Go.Proofs.Ybulkasdy
