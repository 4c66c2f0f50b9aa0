/- The walk of wait$1 (18). -/
import Derived.Test.YbulkasdyHeld
namespace Go.Proofs.Ybulkasdy
open Go.RowKit Go.Maps

theorem MapIs.blk {w : World} {B m : Nat} {sc : Nat → Int} {sp : Nat → Bool} (h : MapIs w B m sc sp) : ∃ es cl, w.heap[B]? = some (.map es cl) := by
  obtain ⟨D, ⟨es, cl, h1, _⟩, _⟩ := h.ex
  exact ⟨es, cl, h1⟩

theorem MemAt.kx {X : Nat → Prop} {w w' : World} {lb lo : Nat} {sf wf : Int} {sc wc : Nat → Int} {sp wp : Nat → Bool} (h : MemAt w lb lo sf wf sc wc sp wp) (hk : Kx X w w') (h1 : ¬ X lb) (h2 : ∀ b es cl, w.heap[b]? = some (.map es cl) → ¬ X b) : MemAt w' lb lo sf wf sc wc sp wp := by
  have hlt : lb < w.heap.size := World.block_lt_of_cell? w _ h.sf
  have e : ∀ k, w'.cell? ⟨lb, k, none⟩ = w.cell? ⟨lb, k, none⟩ := fun k => hk.cell (a := ⟨lb, k, none⟩) hlt h1
  obtain ⟨bs, bw, m, m', a1, a2, a3, a4⟩ := h.ex
  obtain ⟨es, cl, e1⟩ := a3.blk
  obtain ⟨es', cl', e2⟩ := a4.blk
  exact ⟨⟨bs, bw, m, m', (e _).trans a1, (e _).trans a2, a3.of_block (hk.block bs a3.lt (h2 _ _ _ e1)), a4.of_block (hk.block bw a4.lt (h2 _ _ _ e2))⟩, (e _).trans h.sf, (e _).trans h.wf⟩

theorem IsStrs.kx {X : Nat → Prop} {w w' : World} {v : Value} {n : Nat} {ks : Nat → ByteArray} (h : IsStrs w v n ks) (hk : Kx X w w') (h1 : ∀ b s, w.cell? ⟨b, 0, none⟩ = some (.string s) → ¬ X b) : IsStrs w' v n ks := by
  obtain ⟨hn, q, c, rfl, hq⟩ := h
  refine ⟨hn, q, c, rfl, fun hp => ?_⟩
  obtain ⟨b, hb, hc⟩ := hq hp
  exact ⟨b, hb, fun k hk' => by rw [hk.cell (a := ⟨b, k, none⟩) (World.block_lt_of_cell? w _ (hc k hk')) (h1 b _ (hc 0 hp))]; exact hc k hk'⟩

/-- What the state's test reads. -/
structure RdAt (lV lgV kV fV sV L MB n c cb sb ab nk : Nat) (kv : Value) (q : Nat → Int) (flush ans : Bool) (x : Int) (sf wf : Nat → Int) (sc wc : Nat → Nat → Int) (sp wp : Nat → Nat → Bool) (w : World) : Prop where
  l : w.cell? ⟨lV, 0, none⟩ = some (.pointer (some ⟨L, 0, none⟩))
  mem : w.cell? ⟨L, 3, none⟩ = some (.slice (some ⟨MB, 0, none⟩) n c)
  rows : ∀ j, j < n → MemAt w MB (4 * j) (sf j) (wf j) (sc j) (wc j) (sp j) (wp j)
  keys : w.cell? ⟨kV, 0, none⟩ = some kv
  strs : IsStrs w kv nk (fun k => tbl (q k))
  fl : w.cell? ⟨fV, 0, none⟩ = some (.bool flush)
  send : w.cell? ⟨sV, 0, none⟩ = some (.func (.func 9) #[] #[.pointer (some ⟨cb, 0, none⟩), .pointer (some ⟨sb, 0, none⟩), .pointer (some ⟨ab, 0, none⟩)])
  lag : ∃ u1 u2 u3, w.cell? ⟨lgV, 0, none⟩ = some (.slice u1 u2 u3)
  flag : w.frozen? ⟨lgV, 0, none⟩ = false
  cal : w.cell? ⟨cb, 0, none⟩ = some (.int .i64 x)
  fcal : w.frozen? ⟨cb, 0, none⟩ = false
  seen : ∃ u, w.cell? ⟨sb, 0, none⟩ = some u
  fseen : w.frozen? ⟨sb, 0, none⟩ = false
  an : w.cell? ⟨ab, 0, none⟩ = some (.bool ans)
  le : n ≤ 256
  apart : lgV ≠ lV ∧ lgV ≠ L ∧ lgV ≠ MB ∧ lgV ≠ kV ∧ lgV ≠ fV ∧ lgV ≠ sV ∧ lgV ≠ cb ∧ lgV ≠ sb ∧ lgV ≠ ab ∧ cb ≠ sb ∧ cb ≠ ab ∧ sb ≠ ab

theorem eqSl1 (W : World) : (binOp .eql 47 (.slice none 0 0) (.slice none 0 0)).run Yba.prog W = .ok (.bool true) W := by kernel_rfl

theorem eqSl2 (b n c : Nat) (W : World) : (binOp .eql 47 (.slice (some ⟨b, 0, none⟩) n c) (.slice none 0 0)).run Yba.prog W = .ok (.bool false) W := by kernel_rfl

/-- What a round reads. -/
def RS (lV lgV kV fV L MB n c g : Nat) (kv : Value) (flush : Bool) (W : World) : Prop :=
  W.cell? ⟨lgV, 0, none⟩ = some (.slice (some ⟨g, 0, none⟩) n n) ∧ W.cell? ⟨lV, 0, none⟩ = some (.pointer (some ⟨L, 0, none⟩)) ∧ W.cell? ⟨L, 3, none⟩ = some (.slice (some ⟨MB, 0, none⟩) n c) ∧ W.cell? ⟨kV, 0, none⟩ = some kv ∧ W.cell? ⟨fV, 0, none⟩ = some (.bool flush)

set_option maxHeartbeats 2000000 in
set_option maxRecDepth 100000 in
theorem ready18 (lV lgV kV fV sV L MB n c cb sb ab nk : Nat) (kv : Value) (q : Nat → Int) (flush ans : Bool) (x : Int) (sf wf : Nat → Int) (sc wc : Nat → Nat → Int) (sp wp : Nat → Nat → Bool) (f : Nat → Bool) (w : World) (hx0 : 0 ≤ x) (hx1 : x < 1000)
    (hf : ∀ j, j < n → f j = lagV (sf j) (wf j) flush (sc j) (wc j) (sp j) (wp j) q nk) (h : RdAt lV lgV kV fV sV L MB n c cb sb ab nk kv q flush ans x sf wf sc wc sp wp w) :
    Calls Yba.prog 18 #[.pointer (some ⟨lV, 0, none⟩), .pointer (some ⟨lgV, 0, none⟩), .pointer (some ⟨kV, 0, none⟩), .pointer (some ⟨fV, 0, none⟩), .pointer (some ⟨sV, 0, none⟩)] w fun e w' =>
      (anyTo f n = false ∧ e = .returned (.bool true) ∧ w'.cell? ⟨lgV, 0, none⟩ = some (.slice none 0 0) ∧ Kx (fun b => b = lgV) w w') ∨
      (anyTo f n = true ∧ e = .returned (.bool ans) ∧ (∃ v, w'.cell? ⟨lgV, 0, none⟩ = some v ∧ IsBools w' v n f) ∧ w'.cell? ⟨cb, 0, none⟩ = some (.int .i64 (x + 1)) ∧ (∃ v, w'.cell? ⟨sb, 0, none⟩ = some v ∧ IsBools w' v n f) ∧ Kx (fun b => b = lgV ∨ b = cb ∨ b = sb) w w') := by
  obtain ⟨i0, hi, hz0, hz1, hz2⟩ := info_parts Yba.info4
  have hq1 := eqSl1
  have hq2 := eqSl2
  have h1 := h.l
  have h2 := h.mem
  have hle := h.le
  obtain ⟨u1, u2, u3, hu⟩ := h.lag
  have hfl := h.flag
  have HH := hideIt h
  have HFF := hideIt hf
  clear h hf
  go_enter Yba.func18, Yba.ntmps18
  go_wp2_with (at_make; refine wpList_make_full _ rfl _ _ 47 rfl w.heap.size 4 i0 (.bool false) 1 Yba.underlying47 hi hz0 hz1 _ _ _ _ n rfl rfl ?b0 ?b1 ?b2 ?b3 ?b4 ?_)
  case b0 => rfl
  case b1 => rfl
  case b2 => rw [hz2]; omega
  case b3 => unfold maxLen; omega
  case b4 => simp
  intro w1 hown1 hgrow1
  obtain ⟨cur0, hcur0, hcs0⟩ : ∃ cur : Array Value, w1.heap[w.heap.size]? = some (.cells cur 4 (0, 0)) ∧ cur.size = n := by
    rcases hown1.2 with ⟨hv, _⟩ | ⟨g, cap, cur, hv, _, hg, _, _, hcs, _⟩
    · cases hv
    · cases hv
      exact ⟨cur, hg, by simpa using hcs⟩
  have hK1 : Kx (fun b => b = lgV) w w1 := (Kx.refl _ _).grown hgrow1 (by simp)
  have ltL : ∀ {a : Addr} {v : Value}, w.cell? a = some v → a.block < w.heap.size := fun h => World.block_lt_of_cell? w _ h
  have g1 : ∀ {a : Addr} {v : Value}, w.cell? a = some v → w1.cell? a = some v := fun h => hgrow1.cell h (by simp)
  have m1 := g1 hu
  have m2 : w1.frozen? ⟨lgV, 0, none⟩ = false := (World.frozen?_of_block (a := ⟨lgV, 0, none⟩) (hgrow1.block lgV (ltL hu) (by simp))).trans hfl
  have m3 := g1 h1
  have m4 := g1 h2
  have HK1 := hideIt hK1
  have HC0 := hideIt hcur0
  have hapL := HH.out.apart
  have nlV : lV ≠ lgV := fun e => hapL.1 e.symm
  have nL : L ≠ lgV := fun e => hapL.2.1 e.symm
  have hnew : lgV < w.heap.size := ltL hu
  have HAP := hideIt hapL
  clear hown1 hgrow1 hK1 hcur0 g1 hapL ltL
  go_wp2_with fail
  go_loopw [18] (fun i wr => ∃ k : Nat, k ≤ n ∧ i = .int .i64 k ∧ Kx (fun b => b = lgV) w wr ∧ wr.cell? ⟨lgV, 0, none⟩ = some (.slice (some ⟨w.heap.size, 0, none⟩) n n) ∧ wr.frozen? ⟨lgV, 0, none⟩ = false ∧
    ∃ cur : Array Value, wr.heap[w.heap.size]? = some (.cells cur 4 (0, 0)) ∧ cur.size = n ∧ ∀ j, j < k → cur[j]? = some (.bool (f j))) (fun i _ => n - (intOf i).toNat)
  case atStart =>
    refine ⟨0, Nat.zero_le _, rfl, HK1.out.setCell ⟨lgV, 0, none⟩ _ (fun _ => rfl), World.cell?_setCell_same _ _ _ m1, by rw [World.frozen?_setCell]; exact m2, cur0, ?_, hcs0, fun j hj => by omega⟩
    rw [Below.heap_setCell _ _ _ _ (show w.heap.size ≠ lgV by omega)]
    exact HC0.out
  case round =>
    obtain ⟨k, hk, rfl, hkx, hlg, hlf, cur, hrow, hcs, hcur⟩ := hrel
    have hcw : ∀ {a : Addr} {v : Value}, w.cell? a = some v → a.block ≠ lgV → wr.cell? a = some v := fun h1 h2 => by rw [hkx.cell (World.block_lt_of_cell? w _ h1) h2]; exact h1
    have q1 := hcw h1 nlV
    have q2 := hcw h2 nL
    by_cases hlt : k < n
    · have q3 := hcw HH.out.keys (fun e => HAP.out.2.2.2.1 e.symm)
      have q4 := hcw HH.out.fl (fun e => HAP.out.2.2.2.2.1 e.symm)
      have hmem : MemAt wr MB (4 * k) (sf k) (wf k) (sc k) (wc k) (sp k) (wp k) := (HH.out.rows k hlt).kx hkx (fun e => HAP.out.2.2.1 e.symm) (fun b es cl hb e => by subst e; simp [World.cell?, hb] at hu)
      have hstr : IsStrs wr kv nk (fun k => tbl (q k)) := HH.out.strs.kx hkx (fun b s hb e => by subst e; rw [hu] at hb; cases hb)
      have HM := hideIt hmem
      have HST := hideIt hstr
      have HKX := hideIt hkx
      have HCUR := hideIt hcur
      have HROW := hideIt hrow
      clear hmem hstr hkx hcur hcw hrow m1 m2 m3 m4 hu
      go_wp2_with fail
      have hS : RS lV lgV kV fV L MB n c w.heap.size kv flush wr.drew := ⟨hlg, q1, q2, q3, q4⟩
      refine wp_region_held (S := RS lV lgV kV fV L MB n c w.heap.size kv flush) (by kernel_rfl) ?_
      refine takeV 0 21 (.slice (some ⟨w.heap.size, 0, none⟩) n n) rfl rfl (by kernel_rfl) (by kernel_rfl) (by kernel_rfl) (fun _ _ _ h => h) (by kernel_rfl) (by intro W hW; obtain ⟨s1, s2, s3, s4, s5⟩ := hW; go_simp) hS ?_
      refine takeV 1 22 (.int .i64 k) rfl rfl (by kernel_rfl) (by kernel_rfl) (by kernel_rfl) (fun _ _ _ h => h) (by kernel_rfl) (by intro W _; go_simp) hS ?_
      refine takeV 2 23 (.pointer (some ⟨L, 0, none⟩)) rfl rfl (by kernel_rfl) (by kernel_rfl) (by kernel_rfl) (fun _ _ _ h => h) (by kernel_rfl) (by intro W hW; obtain ⟨s1, s2, s3, s4, s5⟩ := hW; go_simp) hS ?_
      refine takeV 3 24 (.pointer (some ⟨L, 0, none⟩)) rfl rfl (by kernel_rfl) (by kernel_rfl) (by kernel_rfl) (fun _ _ _ h => h) (by kernel_rfl) (by intro W _; go_simp) hS ?_
      refine takeV 4 25 (.pointer (some ⟨L, 3, none⟩)) rfl rfl (by kernel_rfl) (by kernel_rfl) (by kernel_rfl) (fun _ _ _ h => h) (by kernel_rfl) (by intro W _; go_simp) hS ?_
      refine takeV 5 26 (.slice (some ⟨MB, 0, none⟩) n c) rfl rfl (by kernel_rfl) (by kernel_rfl) (by kernel_rfl) (fun _ _ _ h => h) (by kernel_rfl) (by intro W hW; obtain ⟨s1, s2, s3, s4, s5⟩ := hW; go_simp) hS ?_
      refine takeV 6 27 (.int .i64 k) rfl rfl (by kernel_rfl) (by kernel_rfl) (by kernel_rfl) (fun _ _ _ h => h) (by kernel_rfl) (by intro W _; go_simp) hS ?_
      refine takeV 7 28 (.pointer (some ⟨MB, 4 * k, none⟩)) rfl rfl (by kernel_rfl) (by kernel_rfl) (by kernel_rfl) (fun _ _ _ h => h) (by kernel_rfl) (by intro W _; go_simp) hS ?_
      refine takeV 8 29 (kv) rfl rfl (by kernel_rfl) (by kernel_rfl) (by kernel_rfl) (fun _ _ _ h => h) (by kernel_rfl) (by intro W hW; obtain ⟨s1, s2, s3, s4, s5⟩ := hW; go_simp) hS ?_
      refine takeV 9 30 (.bool flush) rfl rfl (by kernel_rfl) (by kernel_rfl) (by kernel_rfl) (fun _ _ _ h => h) (by kernel_rfl) (by intro W hW; obtain ⟨s1, s2, s3, s4, s5⟩ := hW; go_simp) hS ?_
      rw [show (Act.put _ _ _ : Act) = { tmps := #[.pointer (some ⟨lV, 0, none⟩), .pointer (some ⟨lgV, 0, none⟩), .pointer (some ⟨kV, 0, none⟩), .pointer (some ⟨fV, 0, none⟩), .pointer (some ⟨sV, 0, none⟩), .bool false, .int .i64 k, .pointer (some ⟨L, 0, none⟩), .pointer (some ⟨L, 0, none⟩), .pointer (some ⟨L, 3, none⟩), .slice (some ⟨MB, 0, none⟩) n c, .int .i64 n, .slice (some ⟨w.heap.size, 0, none⟩) n n, .pointer (some ⟨L, 0, none⟩), .pointer (some ⟨L, 0, none⟩), .pointer (some ⟨L, 3, none⟩), .slice (some ⟨MB, 0, none⟩) n c, .int .i64 n, .int .i64 k, .bool true, .int .i64 k, .slice (some ⟨w.heap.size, 0, none⟩) n n, .int .i64 k, .pointer (some ⟨L, 0, none⟩), .pointer (some ⟨L, 0, none⟩), .pointer (some ⟨L, 3, none⟩), .slice (some ⟨MB, 0, none⟩) n c, .int .i64 k, .pointer (some ⟨MB, 4 * k, none⟩), kv, .bool flush, u31, u32, u33, undef, undef, undef, undef, undef, undef, undef, undef, undef, undef], defers := [] } from by kernel_rfl]
      refine allCall 10 (some 31) 19 #[.pointer (some ⟨MB, 4 * k, none⟩), kv, .bool flush] rfl rfl (by kernel_rfl) (by kernel_rfl) (by go_simp) ?_
      refine (lags19 MB (4 * k) kv nk q flush (sf k) (wf k) (sc k) (wc k) (sp k) (wp k) wr.drew (HST.out.kx (X := fun _ => False) (Kx.refl _ _).drew (fun _ _ _ h => h)) (HM.out.kx (X := fun _ => False) (Kx.refl _ _).drew (fun h => h) (fun _ _ _ _ h => h))).mono ?_
      rintro e w2 ⟨rfl, rfl⟩
      rw [← HFF.out k hlt]
      have hS2 : RS lV lgV kV fV L MB n c w.heap.size kv flush (wr.drew.alloc (.cells #[.pointer (some ⟨MB, 4 * k, none⟩)] 93)) := ⟨cell_alloc_some hS.1 _, cell_alloc_some hS.2.1 _, cell_alloc_some hS.2.2.1 _, cell_alloc_some hS.2.2.2.1 _, cell_alloc_some hS.2.2.2.2 _⟩
      refine ⟨_, rfl, hS2, ?_⟩
      refine takeV 11 32 (.pointer (some ⟨w.heap.size, k, none⟩)) rfl rfl (by kernel_rfl) (by kernel_rfl) (by kernel_rfl) (fun _ _ _ h => h) (by kernel_rfl) (by intro W _; go_simp) hS2 ?_
      have hgl : w.heap.size < wr.heap.size := (Array.getElem?_eq_some_iff.1 HROW.out).1
      obtain ⟨w3, hw3⟩ : ∃ w3, w3 = (wr.drew.alloc (.cells #[.pointer (some ⟨MB, 4 * k, none⟩)] 93)) := ⟨_, rfl⟩
      have hrow3 : w3.heap[w.heap.size]? = some (.cells cur 4 (0, 0)) := by rw [hw3]; exact (Below.heap_alloc _ _ _ hgl).trans HROW.out
      have hc3 : ∃ v, w3.cell? ⟨w.heap.size, k, none⟩ = some v := ⟨cur[k]'(by omega), by rw [cell_of_row _ _ _ _ _ _ hrow3]; exact Array.getElem?_eq_getElem _⟩
      obtain ⟨ov, hc3⟩ := hc3
      have hf3 : w3.frozen? ⟨w.heap.size, k, none⟩ = false := by simp [World.frozen?, hrow3]
      have hkx3 : Kx (fun b => b = lgV) w w3 := by rw [hw3]; exact (HKX.out.drew).alloc _
      rw [← hw3] at hS2 ⊢
      have hlf3 : w3.frozen? ⟨lgV, 0, none⟩ = false := by rw [hw3]; exact (World.frozen?_of_block (a := ⟨lgV, 0, none⟩) (Below.heap_alloc _ _ _ (show lgV < wr.drew.heap.size from Nat.lt_trans hnew hgl))).trans hlf
      clear hw3
      obtain ⟨w4, hw4⟩ : ∃ w4, w4 = w3.setCell ⟨w.heap.size, k, none⟩ (.bool (f k)) := ⟨_, rfl⟩
      have hne : ∀ b, b < w.heap.size → b ≠ w.heap.size := fun b hb => by omega
      have hS4 : RS lV lgV kV fV L MB n c w.heap.size kv flush w4 := by
        rw [hw4]
        refine ⟨?_, ?_, ?_, ?_, ?_⟩
        · rw [World.cell?_setCell_other _ _ _ _ (by intro e; injection e; omega)]; exact hS2.1
        · rw [World.cell?_setCell_other _ _ _ _ (by intro e; injection e with e1; have := World.block_lt_of_cell? w _ h1; simp at this; omega)]; exact hS2.2.1
        · rw [World.cell?_setCell_other _ _ _ _ (by intro e; injection e with e1; have := World.block_lt_of_cell? w _ h2; simp at this; omega)]; exact hS2.2.2.1
        · rw [World.cell?_setCell_other _ _ _ _ (by intro e; injection e with e1; have := World.block_lt_of_cell? w _ HH.out.keys; simp at this; omega)]; exact hS2.2.2.2.1
        · rw [World.cell?_setCell_other _ _ _ _ (by intro e; injection e with e1; have := World.block_lt_of_cell? w _ HH.out.fl; simp at this; omega)]; exact hS2.2.2.2.2
      refine allSkip 12 none w4 rfl rfl (by kernel_rfl) (by kernel_rfl) (by rw [hw4]; go_simp) hS4 ?_
      refine wpAnyH_done (by kernel_rfl) ?_ _
      go_wp2_with fail
      go_roundw
      case rel =>
        subst hw4
        refine ⟨k + 1, by omega, by go_num, hkx3.setCell ⟨w.heap.size, k, none⟩ _ (fun h => absurd h (Nat.lt_irrefl _)), hS4.1, by rw [World.frozen?_setCell]; exact hlf3, cur.setIfInBounds k (.bool (f k)), ?_, by simpa using hcs, fun j hj => ?_⟩
        · rw [setCell_eq_setRow _ _ _ _ _ _ _ hrow3, setRow_heap _ _ _ _ _ _ hrow3]
        · by_cases e : j = k
          · subst e
            rw [Array.getElem?_setIfInBounds_self_of_lt (by omega)]
          · rw [Array.getElem?_setIfInBounds_ne (fun h => e h.symm)]
            exact HCUR.out j (by omega)
      case measure => simp [intOf]; omega
    · have ek : k = n := by omega
      have hbo : IsBools wr (.slice (some ⟨w.heap.size, 0, none⟩) n n) n f := ⟨hle, _, _, rfl, fun _ => ⟨w.heap.size, rfl, fun j hj => by rw [cell_of_row _ _ _ _ _ _ hrow]; exact hcur j (by omega)⟩⟩
      have q5 := hcw HH.out.send (fun e => HAP.out.2.2.2.2.2.1 e.symm)
      have HBO := hideIt hbo
      have HKX := hideIt hkx
      have HROW := hideIt hrow
      have q6 := hcw HH.out.cal (fun e => HAP.out.2.2.2.2.2.2.1 e.symm)
      clear hbo hkx hcur hcw hrow m1 m2 m3 m4
      go_wp2_with fail
      refine (con20 _ n f _ HBO.out).mono ?_
      rintro e w2 ⟨rfl, rfl⟩
      cases han : anyTo f n with
      | false =>
        go_wp2_with fail
        go_ret
        exact .inl ⟨han, rfl, World.cell?_setCell_same _ _ _ hlg, HKX.out.setCell ⟨lgV, 0, none⟩ _ (fun _ => rfl)⟩
      | true =>
        go_wp2_with fail
        have hn0 : 0 < n := by
          rcases Nat.eq_zero_or_pos n with e | e
          · rw [e] at han; cases han
          · exact e
        have A := HAP.out
        obtain ⟨us, hus⟩ := HH.out.seen
        have lcb : cb < w.heap.size := World.block_lt_of_cell? w _ HH.out.cal
        have lsb : sb < w.heap.size := World.block_lt_of_cell? w _ hus
        have lab : ab < w.heap.size := World.block_lt_of_cell? w _ HH.out.an
        have k1 : w2.cell? ⟨sb, 0, none⟩ = some us := by rw [HKX.out.cell (a := ⟨sb, 0, none⟩) lsb (fun e => A.2.2.2.2.2.2.2.1 e.symm)]; exact hus
        have k2 : w2.cell? ⟨ab, 0, none⟩ = some (.bool ans) := by rw [HKX.out.cell (a := ⟨ab, 0, none⟩) lab (fun e => A.2.2.2.2.2.2.2.2.1 e.symm)]; exact HH.out.an
        have k3 : w2.frozen? ⟨cb, 0, none⟩ = false := by rw [HKX.out.frozen (a := ⟨cb, 0, none⟩) lcb (fun e => A.2.2.2.2.2.2.1 e.symm)]; exact HH.out.fcal
        have k4 : w2.frozen? ⟨sb, 0, none⟩ = false := by rw [HKX.out.frozen (a := ⟨sb, 0, none⟩) lsb (fun e => A.2.2.2.2.2.2.2.1 e.symm)]; exact HH.out.fseen
        have hbc : ∀ k, k < n → w2.cell? ⟨w.heap.size, k, none⟩ = some (.bool (f k)) := by
          obtain ⟨_, q', c', he, hq'⟩ := HBO.out
          obtain ⟨b, hb, hcc⟩ := hq' hn0
          rw [hb] at he
          injection he with e1 _ _
          injection e1 with e1
          injection e1 with e1
          rw [e1]
          exact hcc
        have hgl : w.heap.size < w2.heap.size := (Array.getElem?_eq_some_iff.1 HROW.out).1
        refine (send9 w.heap.size n n cb sb ab f ans x us w2 hn0 hle hbc hx0 hx1 q6 k1 k2 k3 k4 (by omega) A.2.2.2.2.2.2.2.2.2.1 A.2.2.2.2.2.2.2.2.2.2.1 A.2.2.2.2.2.2.2.2.2.2.2).mono ?_
        rintro e w3 ⟨rfl, hcal, hseen, hk3⟩
        have r1 : w3.cell? ⟨lgV, 0, none⟩ = some (.slice (some ⟨w.heap.size, 0, none⟩) n n) := by
          rw [hk3.cell (a := ⟨lgV, 0, none⟩) (Nat.lt_trans hnew hgl) (fun h => h.elim A.2.2.2.2.2.2.1 A.2.2.2.2.2.2.2.1)]; exact hlg
        have r2 : IsBools w3 (.slice (some ⟨w.heap.size, 0, none⟩) n n) n f := ⟨hle, _, _, rfl, fun _ => ⟨w.heap.size, rfl, fun j hj => by rw [hk3.cell (a := ⟨w.heap.size, j, none⟩) hgl (fun h => by rcases h with h | h <;> simp at h <;> omega)]; exact hbc j hj⟩⟩
        have hfin : Kx (fun b => b = lgV ∨ b = cb ∨ b = sb) w w3 := (HKX.out.mono (Y := fun b => b = lgV ∨ b = cb ∨ b = sb) (fun _ _ h => .inl h)).trans hk3 (fun _ _ h => .inr h)
        have HF := hideIt (And.intro r1 (And.intro r2 (And.intro hcal (And.intro hseen hfin))))
        clear r1 r2 hcal hseen hk3 hfin hbc k1 k2 k3 k4 hus
        go_wp2_with fail
        go_ret
        exact .inr ⟨han, rfl, ⟨_, HF.out.1, HF.out.2.1⟩, HF.out.2.2.1, HF.out.2.2.2.1, HF.out.2.2.2.2⟩
end Go.Proofs.Ybulkasdy
