/- The walks of lags$1 (26), IndexFunc (36), ContainsFunc (25), lags (19). -/
import Derived.Test.YbulkasdyMap
namespace Go.Proofs.Ybulkasdy
open Go.RowKit Go.Maps

set_option maxHeartbeats 800000 in
set_option maxRecDepth 100000 in
theorem lg26 (s : ByteArray) (cp lb lo bs bw : Nat) (c1 c2 : Int) (w : World) (h0 : w.cell? ⟨cp, 0, none⟩ = some (.pointer (some ⟨lb, lo, none⟩)))
    (h1 : w.cell? ⟨lb, lo, none⟩ = some (.map (some bs))) (h2 : w.cell? ⟨lb, lo + 2, none⟩ = some (.map (some bw)))
    (r1 : (Instr.lookup 50 (.map (some bs)) (.string s) false).run Yba.prog w = .ok (.int .i64 c1) w) (r2 : (Instr.lookup 50 (.map (some bw)) (.string s) false).run Yba.prog w = .ok (.int .i64 c2) w) :
    Calls Yba.prog 26 #[.string s, .pointer (some ⟨cp, 0, none⟩)] w fun e w' => e = .returned (.bool (decide (0 < c1) || decide (0 < c2))) ∧ w' = w := by
  by_cases hc : 0 < c1
  · go_enter Yba.func26, Yba.ntmps26
    go_wp2
    go_ret
    exact ⟨by simp [hc], rfl⟩
  · go_enter Yba.func26, Yba.ntmps26
    go_wp2
    go_ret
    exact ⟨by simp; omega, rfl⟩

/-- A slice of n strings. -/
structure IsStrs (w : World) (v : Value) (n : Nat) (ks : Nat → ByteArray) : Prop where
  le : n ≤ 256
  is : ∃ q c, v = .slice q n c ∧ (0 < n → ∃ b, q = some ⟨b, 0, none⟩ ∧ ∀ k, k < n → w.cell? ⟨b, k, none⟩ = some (.string (ks k)))

theorem idxf36_some (b n c cp : Nat) (ks : Nat → ByteArray) (g : Nat → Bool) (w : World) (hn : n ≤ 256) (hc : ∀ k, k < n → w.cell? ⟨b, k, none⟩ = some (.string (ks k)))
    (hg : ∀ k, k < n → Calls Yba.prog 26 #[.string (ks k), .pointer (some ⟨cp, 0, none⟩)] w fun e w' => e = .returned (.bool (g k)) ∧ w' = w) :
    Calls Yba.prog 36 #[.slice (some ⟨b, 0, none⟩) n c, .func (.func 26) #[] #[.pointer (some ⟨cp, 0, none⟩)]] w fun e w' => (∃ i : Int, e = .returned (.int .i64 i) ∧ (0 ≤ i ∧ i < 65536 ∨ i = -1) ∧ (decide (0 ≤ i)) = anyTo g n) ∧ w' = w := by
  go_enter Yba.func36, Yba.ntmps36
  go_wp2
  go_loopw [8] (fun i wr => wr = w ∧ ∃ k : Nat, k ≤ n ∧ i = .int .i64 k ∧ anyTo g k = false) (fun i _ => n - (intOf i).toNat)
  case atStart => exact ⟨rfl, 0, Nat.zero_le _, rfl, rfl⟩
  case round =>
    obtain ⟨rfl, k, hk, rfl, ha⟩ := hrel
    by_cases hlt : k < n
    · have hcell := hc k hlt
      have hgk := hg k hlt
      have HG := hideIt hgk
      clear hc hg hgk
      go_wp2_with fail
      refine HG.out.mono ?_
      rintro e w1 ⟨rfl, rfl⟩
      cases hf : g k with
      | true =>
        go_wp2_with fail
        go_ret
        exact ⟨⟨k, rfl, .inl ⟨by omega, by omega⟩, by rw [anyTo_hit hlt hf]; simp⟩, rfl⟩
      | false =>
        go_wp2_with fail
        go_roundw
        case rel => exact ⟨trivial, k + 1, by omega, by go_num, by rw [anyTo_succ, ha, hf]; rfl⟩
        case measure => simp [intOf]; omega
    · have e : k = n := by omega
      clear hc hg
      go_wp2
      go_ret
      exact ⟨⟨-1, rfl, .inr rfl, by rw [← e, ha]; rfl⟩, rfl⟩

theorem idxf36_nil (q : Option Addr) (c : Nat) (fv : Value) (g : Nat → Bool) (w : World) :
    Calls Yba.prog 36 #[.slice q 0 c, fv] w fun e w' => (∃ i : Int, e = .returned (.int .i64 i) ∧ (0 ≤ i ∧ i < 65536 ∨ i = -1) ∧ (decide (0 ≤ i)) = anyTo g 0) ∧ w' = w := by
  go_enter Yba.func36, Yba.ntmps36
  go_wp2
  refine wp_loop_rounds 1 ?_
  rw [rounds_succ]
  go_wp2
  go_ret
  exact ⟨⟨-1, rfl, .inr rfl, rfl⟩, rfl⟩

theorem conf25 (v : Value) (n cp : Nat) (ks : Nat → ByteArray) (g : Nat → Bool) (w : World) (h : IsStrs w v n ks)
    (hg : ∀ k, k < n → Calls Yba.prog 26 #[.string (ks k), .pointer (some ⟨cp, 0, none⟩)] w fun e w' => e = .returned (.bool (g k)) ∧ w' = w) :
    Calls Yba.prog 25 #[v, .func (.func 26) #[] #[.pointer (some ⟨cp, 0, none⟩)]] w fun e w' => e = .returned (.bool (anyTo g n)) ∧ w' = w := by
  obtain ⟨hn, q, c, rfl, hq⟩ := h
  have key : Calls Yba.prog 36 #[.slice q n c, .func (.func 26) #[] #[.pointer (some ⟨cp, 0, none⟩)]] w fun e w' => (∃ i : Int, e = .returned (.int .i64 i) ∧ (0 ≤ i ∧ i < 65536 ∨ i = -1) ∧ (decide (0 ≤ i)) = anyTo g n) ∧ w' = w := by
    rcases Nat.eq_zero_or_pos n with rfl | hp
    · exact idxf36_nil q c _ g w
    · obtain ⟨b, rfl, hc⟩ := hq hp
      exact idxf36_some b n c cp ks g w hn hc hg
  have HK := hideIt key
  clear hq hg key
  go_enter Yba.func25, Yba.ntmps25
  go_wp2_with fail
  refine HK.out.mono ?_
  rintro e w1 ⟨⟨i, rfl, hi, ha⟩, rfl⟩
  go_wp2_with fail
  go_ret
  exact ⟨by rw [← ha]; simp, rfl⟩

/-- Does the member lag? -/
def lagV (sf wf : Int) (flush : Bool) (sc wc : Nat → Int) (sp wp : Nat → Bool) (q : Nat → Int) (n : Nat) : Bool :=
  if decide (0 < sf) || decide (0 < wf) then true
  else if flush then anyTo (fun k => sp k || wp k) 5
  else anyTo (fun j => decide (0 < sc (q j % 5).toNat) || decide (0 < wc (q j % 5).toNat)) n

/-- A member's cells. -/
structure MemAt (w : World) (lb lo : Nat) (sf wf : Int) (sc wc : Nat → Int) (sp wp : Nat → Bool) : Prop where
  ex : ∃ bs bw m m', w.cell? ⟨lb, lo, none⟩ = some (.map (some bs)) ∧ w.cell? ⟨lb, lo + 2, none⟩ = some (.map (some bw)) ∧ MapIs w bs m sc sp ∧ MapIs w bw m' wc wp
  sf : w.cell? ⟨lb, lo + 1, none⟩ = some (.int .i64 sf)
  wf : w.cell? ⟨lb, lo + 3, none⟩ = some (.int .i64 wf)

theorem anyTo_none {f : Nat → Bool} {n : Nat} : anyTo f n = false ↔ ∀ k, k < n → f k = false := by
  simp [anyTo]

theorem IsStrs.alloc {w : World} {v : Value} {n : Nat} {ks : Nat → ByteArray} (h : IsStrs w v n ks) (o : Obj) : IsStrs (w.alloc o) v n ks := by
  obtain ⟨hn, q, c, rfl, hq⟩ := h
  refine ⟨hn, q, c, rfl, fun hp => ?_⟩
  obtain ⟨b, hb, hc⟩ := hq hp
  exact ⟨b, hb, fun k hk => by rw [World.cell?_alloc_past _ _ _ (World.block_lt_of_cell? w _ (hc k hk))]; exact hc k hk⟩

theorem lagV_keys {sf wf : Int} (h1 : ¬ 0 < sf) (h2 : ¬ 0 < wf) (sc wc : Nat → Int) (sp wp : Nat → Bool) (q : Nat → Int) (n : Nat) : lagV sf wf false sc wc sp wp q n = anyTo (fun j => decide (0 < sc (q j % 5).toNat) || decide (0 < wc (q j % 5).toNat)) n := by
  simp [lagV, h1, h2]

theorem lagV_flush {sf wf : Int} (h1 : ¬ 0 < sf) (h2 : ¬ 0 < wf) (sc wc : Nat → Int) (sp wp : Nat → Bool) (q : Nat → Int) (n : Nat) : lagV sf wf true sc wc sp wp q n = anyTo (fun k => sp k || wp k) 5 := by
  simp [lagV, h1, h2]

theorem any_pair {s1 s2 : Nat} {sp wp : Nat → Bool} (z1 : s1 = 0 ↔ ∀ k, k < 5 → sp k = false) (z2 : s2 = 0 ↔ ∀ k, k < 5 → wp k = false) : anyTo (fun k => sp k || wp k) 5 = (decide (0 < s1) || decide (0 < s2)) := by
  cases h : anyTo (fun k => sp k || wp k) 5 with
  | false =>
    rw [anyTo_none] at h
    have e1 : s1 = 0 := z1.2 fun k hk => by have := h k hk; simp at this; exact this.1
    have e2 : s2 = 0 := z2.2 fun k hk => by have := h k hk; simp at this; exact this.2
    simp [e1, e2]
  | true =>
    symm
    simp only [Bool.or_eq_true, decide_eq_true_eq]
    by_cases e1 : s1 = 0
    · by_cases e2 : s2 = 0
      · have : anyTo (fun k => sp k || wp k) 5 = false := anyTo_none.2 fun k hk => by simp [z1.1 e1 k hk, z2.1 e2 k hk]
        rw [this] at h
        cases h
      · exact .inr (by omega)
    · exact .inl (by omega)

set_option maxHeartbeats 1600000 in
set_option maxRecDepth 100000 in
theorem lags19 (lb lo : Nat) (v : Value) (n : Nat) (q : Nat → Int) (flush : Bool) (sf wf : Int) (sc wc : Nat → Int) (sp wp : Nat → Bool) (w : World) (hs : IsStrs w v n (fun k => tbl (q k))) (h : MemAt w lb lo sf wf sc wc sp wp) :
    Calls Yba.prog 19 #[.pointer (some ⟨lb, lo, none⟩), v, .bool flush] w fun e w' => e = .returned (.bool (lagV sf wf flush sc wc sp wp q n)) ∧ w' = w.alloc (.cells #[.pointer (some ⟨lb, lo, none⟩)] 93) := by
  have hlt : lb < w.heap.size := World.block_lt_of_cell? w _ h.sf
  obtain ⟨bs, bw, m, m', h1, h2, hm1, hm2⟩ := h.ex
  obtain ⟨w1, hw1⟩ : ∃ w1, w1 = w.alloc (.cells #[.pointer (some ⟨lb, lo, none⟩)] 93) := ⟨_, rfl⟩
  have hblk : ∀ b, b < w.heap.size → w1.heap[b]? = w.heap[b]? := fun b hb => by rw [hw1]; exact Below.heap_alloc _ _ _ hb
  have c0 : w1.cell? ⟨w.heap.size, 0, none⟩ = some (.pointer (some ⟨lb, lo, none⟩)) := by rw [hw1, World.cell?_alloc_mark]; rfl
  have c1 : w1.cell? ⟨lb, lo, none⟩ = some (.map (some bs)) := by rw [World.cell?_of_block (a := ⟨lb, lo, none⟩) (hblk lb hlt)]; exact h1
  have c2 : w1.cell? ⟨lb, lo + 2, none⟩ = some (.map (some bw)) := by rw [World.cell?_of_block (a := ⟨lb, lo + 2, none⟩) (hblk lb hlt)]; exact h2
  have c3 : w1.cell? ⟨lb, lo + 1, none⟩ = some (.int .i64 sf) := by rw [World.cell?_of_block (a := ⟨lb, lo + 1, none⟩) (hblk lb hlt)]; exact h.sf
  have c4 : w1.cell? ⟨lb, lo + 3, none⟩ = some (.int .i64 wf) := by rw [World.cell?_of_block (a := ⟨lb, lo + 3, none⟩) (hblk lb hlt)]; exact h.wf
  have n1 := hm1.of_block (hblk bs hm1.lt)
  have n2 := hm2.of_block (hblk bw hm2.lt)
  obtain ⟨s1, l1, z1⟩ := n1.len
  obtain ⟨s2, l2, z2⟩ := n2.len
  have hs' : IsStrs w1 v n (fun k => tbl (q k)) := by rw [hw1]; exact hs.alloc _
  have hcf := conf25 v n w.heap.size (fun k => tbl (q k)) (fun j => decide (0 < sc (q j % 5).toNat) || decide (0 < wc (q j % 5).toNat)) w1 hs' (fun k _ => lg26 _ w.heap.size lb lo bs bw _ _ w1 c0 c1 c2 (n1.look (q k)) (n2.look (q k)))
  have hmf : ∀ (fn : Fn) (first cap : Array Value) (w : World), (Instr.makeFunc fn first cap).run Yba.prog w = .ok (.func fn first cap) w := fun _ _ _ _ => rfl
  have HCF := hideIt hcf
  have HZ := hideIt (And.intro z1 z2)
  clear hs hs' h h1 h2 hm1 hm2 hblk n1 n2 hcf z1 z2
  subst hw1
  by_cases hsf : 0 < sf
  · go_enter Yba.func19, Yba.ntmps19
    go_wp2
    go_ret
    exact ⟨by simp [lagV, hsf], rfl⟩
  · by_cases hwf : 0 < wf
    · go_enter Yba.func19, Yba.ntmps19
      go_wp2
      go_ret
      exact ⟨by simp [lagV, hwf], rfl⟩
    · cases flush with
      | true =>
        have HL := hideIt ((lagV_flush hsf hwf sc wc sp wp q n).trans (any_pair HZ.out.1 HZ.out.2))
        by_cases hz : s1 = 0
        · go_enter Yba.func19, Yba.ntmps19
          go_wp2
          go_ret
          refine ⟨?_, rfl⟩
          rw [HL.out]
          simp
          omega
        · go_enter Yba.func19, Yba.ntmps19
          go_wp2
          go_ret
          refine ⟨?_, rfl⟩
          rw [HL.out]
          simp
          omega
      | false =>
        have HL := hideIt (lagV_keys hsf hwf sc wc sp wp q n)
        go_enter Yba.func19, Yba.ntmps19
        go_wp2_with fail
        refine HCF.out.mono ?_
        rintro e w2 ⟨rfl, rfl⟩
        go_wp2_with fail
        go_ret
        exact ⟨by rw [HL.out]; rfl, rfl⟩
end Go.Proofs.Ybulkasdy
