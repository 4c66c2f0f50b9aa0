/- Worlds that part in known blocks alone; the walk of the law's closure (9). -/
import Derived.Test.YbulkasdyLags
namespace Go.Proofs.Ybulkasdy
open Go.RowKit Go.Maps

/-- w' is w but for new blocks and for the blocks of X. -/
structure Kx (X : Nat → Prop) (w w' : World) : Prop where
  os : w'.os = w.os
  tape : w'.tape = w.tape
  output : w'.output = w.output
  size : w.heap.size ≤ w'.heap.size
  block : ∀ b, b < w.heap.size → ¬ X b → w'.heap[b]? = w.heap[b]?

section
variable {X Y : Nat → Prop} {w w1 w2 : World}
theorem Kx.refl (X : Nat → Prop) (w : World) : Kx X w w := ⟨rfl, rfl, rfl, Nat.le_refl _, fun _ _ _ => rfl⟩
theorem Kx.trans (h : Kx X w w1) (h' : Kx Y w1 w2) (hY : ∀ b, b < w.heap.size → Y b → X b) : Kx X w w2 :=
  ⟨h'.os.trans h.os, h'.tape.trans h.tape, h'.output.trans h.output, Nat.le_trans h.size h'.size, fun b hb hx => (h'.block b (Nat.lt_of_lt_of_le hb h.size) (fun hy => hx (hY b hb hy))).trans (h.block b hb hx)⟩
theorem Kx.alloc (h : Kx X w w1) (o : Obj) : Kx X w (w1.alloc o) :=
  ⟨h.os, h.tape, h.output, by rw [World.size_alloc]; exact Nat.le_succ_of_le h.size, fun b hb hx => (Below.heap_alloc _ _ _ (Nat.lt_of_lt_of_le hb h.size)).trans (h.block b hb hx)⟩
theorem Kx.drew (h : Kx X w w1) : Kx X w w1.drew := ⟨h.os, h.tape, h.output, h.size, h.block⟩
theorem Kx.setCell (h : Kx X w w1) (a : Addr) (v : Value) (ha : a.block < w.heap.size → X a.block) : Kx X w (w1.setCell a v) :=
  ⟨h.os, h.tape, h.output, by rw [World.size_setCell]; exact h.size, fun b hb hx => by
    have hne : b ≠ a.block := fun e => hx (by rw [e] at hb ⊢; exact ha hb)
    rw [Below.heap_setCell _ _ _ _ hne]; exact h.block b hb hx⟩
theorem Kx.grown (h : Kx X w w1) {r : Option Nat} (hg : w1.grownBy w2 r) (hr : ∀ b, r = some b → b < w.heap.size → X b) : Kx X w w2 :=
  ⟨hg.os.trans h.os, hg.tape.trans h.tape, hg.output.trans h.output, Nat.le_trans h.size hg.size, fun b hb hx => (hg.block b (Nat.lt_of_lt_of_le hb h.size) (fun e => hx (hr b e.symm hb))).trans (h.block b hb hx)⟩
theorem Kx.below (h : Kx X w w1) {B : Nat} (hB : B ≤ w.heap.size) (hX : ∀ b, b < B → ¬ X b) : Below B w w1 :=
  ⟨h.os, h.tape, h.output, h.size, fun b hb => h.block b (Nat.lt_of_lt_of_le hb hB) (hX b hb)⟩
theorem Kx.of_below (h : Below w.heap.size w w1) : Kx X w w1 := ⟨h.os, h.tape, h.output, h.size, fun b hb _ => h.block b hb⟩
theorem Kx.mono (h : Kx X w w1) (hX : ∀ b, b < w.heap.size → X b → Y b) : Kx Y w w1 := ⟨h.os, h.tape, h.output, h.size, fun b hb hy => h.block b hb (fun hx => hy (hX b hb hx))⟩
theorem Kx.cell (h : Kx X w w1) {a : Addr} (hb : a.block < w.heap.size) (hx : ¬ X a.block) : w1.cell? a = w.cell? a := World.cell?_of_block (h.block _ hb hx)
theorem Kx.frozen (h : Kx X w w1) {a : Addr} (hb : a.block < w.heap.size) (hx : ¬ X a.block) : w1.frozen? a = w.frozen? a := World.frozen?_of_block (h.block _ hb hx)
end

/-- The cells of a slice of bools. -/
def bcells (f : Nat → Bool) (n : Nat) : List Value := (List.range n).map fun k => .bool (f k)

theorem bcells_get {f : Nat → Bool} {n j : Nat} (h : j < n) : (bcells f n)[j]? = some (.bool (f j)) := by simp [bcells, h]

theorem ownsRow_bools {w : World} {B e : Nat} {v : Value} {n : Nat} {f : Nat → Bool} (h : w.ownsRow B e 1 v n (bcells f n)) (hn : n ≤ 256) (h0 : v ≠ .slice none 0 0) : IsBools w v n f := by
  obtain ⟨_, ⟨rfl, _⟩ | ⟨g, cap, cur, rfl, _, hg, _, _, _, ht⟩⟩ := h
  · exact absurd rfl h0
  · refine ⟨hn, some ⟨g, 0, none⟩, cap, rfl, fun _ => ⟨g, rfl, fun k hk => ?_⟩⟩
    rw [cell_of_row w g k cur e (0, 0) hg]
    have h1 : (cur.toList.take (n * 1))[k]? = some (.bool (f k)) := by rw [ht]; exact bcells_get hk
    rw [List.getElem?_take] at h1
    simp only [Nat.mul_one, hk, if_true] at h1
    simpa using h1

theorem Yba.info4 : (Yba.prog.info? 4).map (fun i => (i.zero, i.size, i.bytes)) = some (some (.bool false), 1, 1) := by kernel_rfl

set_option maxHeartbeats 1600000 in
set_option maxRecDepth 100000 in
theorem send9 (lb n c cb sb ab : Nat) (f : Nat → Bool) (ans : Bool) (x : Int) (u : Value) (w : World) (hn : 0 < n) (hn2 : n ≤ 256) (hc : ∀ k, k < n → w.cell? ⟨lb, k, none⟩ = some (.bool (f k)))
    (hx0 : 0 ≤ x) (hx1 : x < 1000) (h1 : w.cell? ⟨cb, 0, none⟩ = some (.int .i64 x)) (h2 : w.cell? ⟨sb, 0, none⟩ = some u) (h3 : w.cell? ⟨ab, 0, none⟩ = some (.bool ans)) (f1 : w.frozen? ⟨cb, 0, none⟩ = false) (f2 : w.frozen? ⟨sb, 0, none⟩ = false)
    (ncl : cb ≠ lb) (ncs : cb ≠ sb) (nca : cb ≠ ab) (nsa : sb ≠ ab) :
    Calls Yba.prog 9 #[.slice (some ⟨lb, 0, none⟩) n c, .pointer (some ⟨cb, 0, none⟩), .pointer (some ⟨sb, 0, none⟩), .pointer (some ⟨ab, 0, none⟩)] w fun e w' => e = .returned (.bool ans) ∧
      w'.cell? ⟨cb, 0, none⟩ = some (.int .i64 (x + 1)) ∧ (∃ v, w'.cell? ⟨sb, 0, none⟩ = some v ∧ IsBools w' v n f) ∧ Kx (fun b => b = cb ∨ b = sb) w w' := by
  obtain ⟨i0, hi, hz0, hz1, hz2⟩ := info_parts Yba.info4
  have hcl : cb < w.heap.size := World.block_lt_of_cell? w _ h1
  have hsl : sb < w.heap.size := World.block_lt_of_cell? w _ h2
  have hal : ab < w.heap.size := World.block_lt_of_cell? w _ h3
  obtain ⟨w1, hw1⟩ : ∃ w1, w1 = w.setCell ⟨cb, 0, none⟩ (.int .i64 (x + 1)) := ⟨_, rfl⟩
  have hcs : ∀ j v, (bcells f n)[j]? = some v → w1.cell? ((⟨lb, 0, none⟩ : Addr).add j) = some v := fun j v hj => by
    have hjn : j < n := by
      have := (List.getElem?_eq_some_iff.1 hj).1
      simpa [bcells] using this
    rw [bcells_get hjn] at hj
    have hadd : (⟨lb, 0, none⟩ : Addr).add j = ⟨lb, j, none⟩ := by unfold Addr.add; split <;> simp_all
    rw [hadd, hw1, World.cell?_setCell_other _ _ _ _ (by intro e; injection e; omega), hc j hjn]
    exact hj
  have HCS := hideIt hcs
  go_enter Yba.func9, Yba.ntmps9
  go_wp2_with (at_builtin; refine wpList_append_own _ rfl _ _ 47 rfl w.heap.size 4 i0 (.bool false) 1 1 Yba.underlying47 hi hz0 hz1 hz2 rfl (by decide) (.slice none 0 0) 0 [] rfl (World.ownsRow_nil _ _ _ _) ⟨lb, 0, none⟩ n c (bcells f n) rfl ?c0 ?c1 ?c2 ?c3 ?c4 ?c5 ?_)
  case c0 => simp [bcells]
  case c1 => rw [← hw1]; exact HCS.out
  case c2 => intro u' hu'; simp only [bcells, List.mem_map] at hu'; obtain ⟨k, _, rfl⟩ := hu'; rfl
  case c3 => unfold maxLen; omega
  case c4 => omega
  case c5 => simp
  intro v' w2 hown hgrow hnil
  rw [← hw1] at hgrow
  have hgrow : w1.grownBy w2 none := hgrow
  have hK1 : Kx (fun b => b = cb ∨ b = sb) w w1 := by rw [hw1]; exact (Kx.refl _ _).setCell ⟨cb, 0, none⟩ _ (fun _ => .inl rfl)
  have hK2 : Kx (fun b => b = cb ∨ b = sb) w w2 := hK1.grown hgrow (by simp)
  have hb2 : ∀ b, b < w.heap.size → w2.heap[b]? = w1.heap[b]? := fun b hb => hgrow.block b (Nat.lt_of_lt_of_le hb hK1.size) (by simp)
  have e1 : w2.cell? ⟨cb, 0, none⟩ = some (.int .i64 (x + 1)) := by
    rw [World.cell?_of_block (a := ⟨cb, 0, none⟩) (hb2 cb hcl), hw1]
    exact World.cell?_setCell_same _ _ _ h1
  have e2 : w2.cell? ⟨sb, 0, none⟩ = some u := by
    rw [World.cell?_of_block (a := ⟨sb, 0, none⟩) (hb2 sb hsl), hw1, World.cell?_setCell_other _ _ _ _ (by simp)]
    exact h2
  have e3 : w2.cell? ⟨ab, 0, none⟩ = some (.bool ans) := by
    rw [World.cell?_of_block (a := ⟨ab, 0, none⟩) (hb2 ab hal), hw1, World.cell?_setCell_other _ _ _ _ (by simp)]
    exact h3
  have e4 : w2.frozen? ⟨sb, 0, none⟩ = false := by
    rw [World.frozen?_of_block (a := ⟨sb, 0, none⟩) (hb2 sb hsl), hw1, World.frozen?_setCell]
    exact f2
  have hv' : v' ≠ .slice none 0 0 := fun e => by have := hnil.1 e; omega
  have hib : IsBools w2 v' n f := ownsRow_bools (B := w.heap.size) (e := 4) (by simpa using hown) hn2 hv'
  obtain ⟨g, cap, rfl, hgb⟩ : ∃ g cap, v' = .slice (some ⟨g, 0, none⟩) n cap ∧ w.heap.size ≤ g := by
    obtain ⟨_, ⟨rfl, _⟩ | ⟨g, cap, cur, rfl, hgb, _⟩⟩ := hown
    · exact absurd rfl hv'
    · exact ⟨g, cap, by simp, hgb⟩
  have hfin : ∃ v, (w2.setCell ⟨sb, 0, none⟩ (.slice (some ⟨g, 0, none⟩) n cap)).cell? ⟨sb, 0, none⟩ = some v ∧ IsBools (w2.setCell ⟨sb, 0, none⟩ (.slice (some ⟨g, 0, none⟩) n cap)) v n f := by
    refine ⟨_, World.cell?_setCell_same _ _ _ e2, hn2, some ⟨g, 0, none⟩, cap, rfl, fun hp => ⟨g, rfl, fun k hk => ?_⟩⟩
    obtain ⟨_, q, c', he, hq⟩ := hib
    obtain ⟨b, hb, hcc⟩ := hq hp
    rw [hb] at he
    injection he with h1 _ _
    injection h1 with h1
    injection h1 with h1
    rw [World.cell?_setCell_other _ _ _ _ (by intro e; injection e; omega), h1]
    exact hcc k hk
  have HFI := hideIt hfin
  have HK2 := hideIt hK2
  clear hfin hib hK2 hK1 hb2 hown hgrow hnil HCS hcs hw1 hc
  go_wp2_with fail
  go_ret
  exact ⟨rfl, by rw [World.cell?_setCell_other _ _ _ _ (by simp)]; exact e1, HFI.out, HK2.out.setCell ⟨sb, 0, none⟩ _ (fun _ => .inr rfl)⟩
end Go.Proofs.Ybulkasdy
