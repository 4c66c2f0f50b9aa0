/- The walk of NewSequencer (10). -/
import Derived.Test.YbulkashsDlv
namespace Go.Proofs.Ybulkashs
open Go.RowKit Go.Sort

/-- The settings' cells. -/
def stA (p : Bool) : Array Value := #[.int .i64 8, .int .i64 1024, .int .i64 64, .int .i64 0, .int .i64 0, .int .i64 0, .int .i64 1024, .bool false, .bool p, .bool false, .bool false, .bool false, .int .u64 0, .int .u64 0, .pointer none, .int .u16 0, .int .i64 1]

theorem st_built (p : Bool) : Yba.prog.built 50 [(0, .int .i64 8), (1, .int .i64 1024), (2, .int .i64 64), (5, .int .i64 1024), (12, .int .i64 1), (7, .bool p)] = some (stA p) := by kernel_rfl

theorem st_isSet (p : Bool) : IsSet (stA p).toList p := by
  constructor <;> rfl

/-- The parts of the member. -/
def memParts (p : Bool) (ob k : Nat) : List (Nat × Value) := [(0, .iface 106 (.pointer (some ⟨ob, 0, none⟩))), (2, .slice none 0 0), (3, .int .u64 1), (11, .agg (stA p)), (12, .int .u64 1), (16, .int .u64 2), (18, .int .i64 1), (39, .map (some k)), (51, .bool true), (27, .int .u64 1)]

/-- What the walk asks of the member's cells. -/
structure MemC (cells : Array Value) (p : Bool) (ob : Nat) : Prop where
  c0 : cells[0]? = some (.iface 106 (.pointer (some ⟨ob, 0, none⟩)))
  c4 : cells[4]? = some (.int .u64 0)
  c6 : ∃ i, cells[6]? = some (.int .u64 i)
  c7 : cells[7]? = some (.int .i64 0)
  c8 : cells[8]? = some (.int .u64 0)
  st : (List.range 17).map (fun j => cells[19 + j]?) = (stA p).toList.map some
  c36 : cells[36]? = some (.int .u64 1)
  c37 : ∃ v, cells[37]? = some v
  c38 : ∃ v, cells[38]? = some v
  c41 : cells[41]? = some (.slice none 0 0)
  c42 : cells[42]? = some (.int .i64 1)
  c43 : cells[43]? = some (.int .u64 0)
  c55 : cells[55]? = some (.slice none 0 0)
  c56 : cells[56]? = some (.int .i64 0)
  c57 : cells[57]? = some (.int .i64 0)
  c58 : cells[58]? = some (.int .i64 0)
  c176 : cells[176]? = some (.bool false)
  c186 : cells[186]? = some (.map none)
  c198 : cells[198]? = some (.pointer none)
  one : (cells.all fun v => v.oneCell') = true

theorem mem_ex (p : Bool) (ob k : Nat) : ∃ cells, Yba.prog.built 82 (memParts p ob k) = some cells ∧ MemC cells p ob :=
  ⟨(Yba.prog.built 82 (memParts p ob k)).getD #[], by kernel_rfl, by kernel_rfl, by kernel_rfl, by first | exact ⟨0, by kernel_rfl⟩ | exact ⟨1, by kernel_rfl⟩, by kernel_rfl, by kernel_rfl, by kernel_rfl, by kernel_rfl, ⟨.int .i64 0, by kernel_rfl⟩, ⟨.int .i64 0, by kernel_rfl⟩, by kernel_rfl, by kernel_rfl, by kernel_rfl, by kernel_rfl, by kernel_rfl, by kernel_rfl, by kernel_rfl, by kernel_rfl, by kernel_rfl, by kernel_rfl, by kernel_rfl⟩

theorem Yba.isRow50' : ∃ d, Yba.prog.underlying 50 = some d ∧ d.isRow = true := Yba.isRow50

/-- The settings lie in block g. -/
def SS (g : Nat) (p : Bool) (W : World) : Prop := W.heap[g]? = some (.cells (stA p) 50 (0, 0))

theorem SS.below {g : Nat} {p : Bool} {W w' : World} (h : SS g p W) (hb : Below W.heap.size W w') : SS g p w' :=
  (hb.block g (Array.getElem?_eq_some_iff.1 h).1).trans h

theorem built_eq {t : TypeId} {L L' : List (Nat × Value)} {cells : Array Value} (h : Yba.prog.built t L = some cells) (e : L' = L) : Yba.prog.built t L' = some cells := by rw [e]; exact h

/-- The datagram. -/
theorem dg_ex : ∃ cells, Yba.prog.built 67 [(0, .int .u8 8), (4, .int .u64 1), (11, .int .u64 1)] = some cells ∧ cells[0]? = some (.int .u8 8) ∧ cells[4]? = some (.int .u64 1) ∧ cells[6]? = some (.int .u64 0) ∧ cells[38]? = some (.slice none 0 0) :=
  ⟨(Yba.prog.built 67 [(0, .int .u8 8), (4, .int .u64 1), (11, .int .u64 1)]).getD #[], by kernel_rfl, by kernel_rfl, by kernel_rfl, by kernel_rfl, by kernel_rfl⟩

/-- A row's range. -/
theorem MemC.range {cells : Array Value} {p : Bool} {ob : Nat} (h : MemC cells p ob) (j : Nat) (v : Value) (hj : (stA p).toList[j]? = some v) : cells[19 + j]? = some v := by
  have hl : j < 17 := by
    have := (List.getElem?_eq_some_iff.1 hj).1
    simpa [stA] using this
  have e := congrArg (fun l => l[j]?) h.st
  simp only [List.getElem?_map, List.getElem?_range hl, hj, Option.map_some] at e
  simpa using e

set_option maxHeartbeats 2000000 in
set_option maxRecDepth 100000 in
theorem newSeq_any (p : Bool) (ob : Nat) (w : World) (hob : ob < w.heap.size) (o0 : w.cell? ⟨ob, 0, none⟩ = some (.int .i64 0)) (of : w.frozen? ⟨ob, 0, none⟩ = false) :
    Calls Yba.prog 10 #[.int .u64 1, .agg (stA p), .iface 106 (.pointer (some ⟨ob, 0, none⟩))] w fun e w' => ∃ m sb, e = .returned (.pointer (some ⟨m, 0, none⟩)) ∧ w.heap.size ≤ m ∧ sb ≠ m ∧ w'.rangeAt m 19 (stA p).toList
      ∧ (∃ v, w'.cell? ⟨m, 37, none⟩ = some v) ∧ (∃ v, w'.cell? ⟨m, 38, none⟩ = some v) ∧ (∀ k, w'.frozen? ⟨m, k, none⟩ = false) ∧ w'.cell? ⟨m, 198, none⟩ = some (.pointer (some ⟨sb, 0, none⟩)) ∧ w'.cell? ⟨sb, 0, none⟩ = some (.slice none 0 0) ∧ KeptO ob w w' := by
  have hsz : ∀ (W : World) o, (W.alloc o).heap.size = W.heap.size + 1 := fun W o => World.size_alloc ..
  go_enter Yba.func10, Yba.ntmps10
  go_wp2_with fail
  go_cut [7] from 9 to 16 (fun s w' => ∃ m cells, s = .pointer (some ⟨m, 0, none⟩) ∧ w.heap.size ≤ m ∧ MemC cells p ob ∧ w'.heap[m]? = some (.cells cells 82 (0, 0)) ∧ Below w.heap.size w w')
  case first =>
    obtain ⟨W, hW⟩ : ∃ W, W = (w.alloc (.cells (stA p) 50)).drew := ⟨_, rfl⟩
    have hWs : W.heap.size = w.heap.size + 1 := by rw [hW]; exact hsz w _
    have hWb : Below w.heap.size w W := by rw [hW]; exact (((Below.refl _ _).alloc (Nat.le_refl _) _).drew)
    have hS : SS w.heap.size p W := by rw [hW]; exact heap_alloc_new w _
    refine wp_region_held (S := SS w.heap.size p) (by kernel_rfl) ?_
    change wpAnyH _ _ _ _ _ _ _ _ (w.alloc (.cells (stA p) 50)).drew
    rw [← hW]
    refine takeV 0 9 (.iface 106 (.pointer (some ⟨ob, 0, none⟩))) rfl rfl (by kernel_rfl) (by kernel_rfl) (by kernel_rfl) (fun _ _ _ h => h) (by kernel_rfl) (by intro W _; go_simp) hS ?_
    refine takeV 1 10 (.iface 106 (.pointer (some ⟨ob, 0, none⟩))) rfl rfl (by kernel_rfl) (by kernel_rfl) (by kernel_rfl) (fun _ _ _ h => h) (by kernel_rfl) (by intro W _; go_simp) hS ?_
    refine takeV 3 12 (.int .u64 1) rfl rfl (by kernel_rfl) (by kernel_rfl) (by kernel_rfl) (fun _ _ _ h => h) (by kernel_rfl) (by intro W _; go_simp) hS ?_
    refine takeV 4 13 (.agg (stA p)) rfl rfl (by kernel_rfl) (by kernel_rfl) (by kernel_rfl) (fun _ _ _ h => h) (by kernel_rfl) (fun W hW => run_load_op 50 _ rfl w.heap.size (by kernel_rfl) 50 (stA p) hW Yba.isRow50 (by kernel_rfl)) hS ?_
    rw [show (Act.put _ _ _ : Act) = { tmps := #[.int .u64 1, .agg (stA p), .iface 106 (.pointer (some ⟨ob, 0, none⟩)), undef, .pointer (some ⟨w.heap.size, 0, none⟩), undef, .pointer none, undef, undef, .iface 106 (.pointer (some ⟨ob, 0, none⟩)), .iface 106 (.pointer (some ⟨ob, 0, none⟩)), undef, .int .u64 1, .agg (stA p), undef, undef, undef, undef, undef, undef, undef, undef, undef, undef, undef, undef, undef, undef, undef, undef, undef, undef, undef, undef, undef, undef], defers := [] } from by kernel_rfl]
    refine wpAnyH_all (rs := [2, 5]) (by kernel_rfl) (by simp) ?_
    intro j hj
    simp only [List.mem_cons, List.not_mem_nil, or_false] at hj
    rcases hj with rfl | rfl
    · refine wpOp_call 2 (some 11) 68 #[.pointer (some ⟨ob, 0, none⟩)] rfl rfl (by kernel_rfl) (by kernel_rfl) ?_
      refine (links_any _ W).mono ?_
      rintro e w1 ⟨rfl, rfl⟩
      refine ⟨_, rfl, hS, ?_⟩
      have hS1 := hS.below (below_alloc_self w1 (.map #[] 0))
      refine allVal 5 (some 14) (.map (some w1.heap.size)) (w1.alloc (.map #[] 0)) rfl rfl (by kernel_rfl) (by kernel_rfl) (by kernel_rfl) hS1 ?_
      obtain ⟨cells, hbu, hc⟩ := mem_ex p ob w1.heap.size
      refine takeV 6 15 (.agg cells) rfl rfl (by kernel_rfl) (by kernel_rfl) (by kernel_rfl) (fun _ _ _ h => h) (by kernel_rfl) (fun W _ => run_build_op 82 _ rfl hbu (by kernel_rfl)) hS1 ?_
      have hS2 := hS1.below (below_alloc_self (w1.alloc (.map #[] 0)) (.cells cells 82))
      refine allBox 7 16 82 (.tmp 15) rfl rfl rfl (by kernel_rfl) (by kernel_rfl) cells (by kernel_rfl) hS2 ?_
      refine takeV 8 7 (.pointer (some ⟨(w1.alloc (.map #[] 0)).heap.size, 0, none⟩)) rfl rfl (by kernel_rfl) (by kernel_rfl) (by kernel_rfl) (fun _ _ _ h => h) (by kernel_rfl) (by intro W _; go_simp) hS2 ?_
      refine wpAnyH_done (by kernel_rfl) ?_ _
      go_wp2_with fail
      go_meet
      case rel => exact ⟨_, cells, rfl, by rw [hsz]; omega, hc, heap_alloc_new _ _, (hWb.alloc (by omega) _).alloc (by rw [hsz]; omega) _⟩
    · have hS1 := hS.below (below_alloc_self W (.map #[] 0))
      refine wpOp_val 5 (some 14) (.map (some W.heap.size)) (W.alloc (.map #[] 0)) rfl rfl (by kernel_rfl) (by kernel_rfl) ?_
      refine ⟨hS1, ?_⟩
      refine allCall 2 (some 11) 68 #[.pointer (some ⟨ob, 0, none⟩)] rfl rfl (by kernel_rfl) (by kernel_rfl) (by kernel_rfl) ?_
      refine (links_any _ _).mono ?_
      rintro e w1 ⟨rfl, rfl⟩
      refine ⟨_, rfl, hS1, ?_⟩
      obtain ⟨cells, hbu, hc⟩ := mem_ex p ob W.heap.size
      refine takeV 6 15 (.agg cells) rfl rfl (by kernel_rfl) (by kernel_rfl) (by kernel_rfl) (fun _ _ _ h => h) (by kernel_rfl) (fun W _ => run_build_op 82 _ rfl hbu (by kernel_rfl)) hS1 ?_
      have hS2 := hS1.below (below_alloc_self (W.alloc (.map #[] 0)) (.cells cells 82))
      refine allBox 7 16 82 (.tmp 15) rfl rfl rfl (by kernel_rfl) (by kernel_rfl) cells (by kernel_rfl) hS2 ?_
      refine takeV 8 7 (.pointer (some ⟨(W.alloc (.map #[] 0)).heap.size, 0, none⟩)) rfl rfl (by kernel_rfl) (by kernel_rfl) (by kernel_rfl) (fun _ _ _ h => h) (by kernel_rfl) (by intro W _; go_simp) hS2 ?_
      refine wpAnyH_done (by kernel_rfl) ?_ _
      go_wp2_with fail
      go_meet
      case rel => exact ⟨_, cells, rfl, by rw [hsz]; omega, hc, heap_alloc_new _ _, (hWb.alloc (by omega) _).alloc (by rw [hsz]; omega) _⟩
  case rest =>
    obtain ⟨m, cells, rfl, hm, hc, hrow, hb⟩ := hcut
    have hml : m < wc.heap.size := (Array.getElem?_eq_some_iff.1 hrow).1
    have hcell : ∀ k, wc.cell? ⟨m, k, none⟩ = cells[k]? := fun k => cell_of_row wc m k cells 82 (0, 0) hrow
    have hfro : ∀ k, wc.frozen? ⟨m, k, none⟩ = false := fun k => by simp [World.frozen?, hrow]
    have hso : w.heap.size ≤ wc.heap.size := hb.size
    have HB := hideIt hb
    have HC := hideIt hc
    have HL := hideIt hcell
    have HF := hideIt hfro
    have HO := hideIt o0
    have HOF := hideIt of
    clear hb hc hrow hcell hfro o0 of
    go_wp2_with fail
    refine (newSq_any m _ ((HL.out 36).trans HC.out.c36)).mono ?_
    rintro e w1 ⟨sb, rfl, hsb, hsb0, hb1⟩
    have g198 : w1.cell? ⟨m, 198, none⟩ = some (.pointer none) := by rw [hb1.cell hml, HL.out]; exact HC.out.c198
    have gfr : w1.frozen? ⟨m, 198, none⟩ = false := by rw [hb1.frozen hml]; exact HF.out _
    have HB1 := hideIt hb1
    have HSB := hideIt hsb0
    clear hb1 hsb0
    obtain ⟨dc, hdc, hd0, hd4, hd6, hd38⟩ := dg_ex
    have HD := hideIt hdc
    clear hdc
    go_wp2_with (refine wpList_buildTo rfl 67 #[(0, .const (.int .u8 8)), (4, .const (.int .u64 1)), (11, .const (.int .u64 1))] rfl _ rfl dc (built_eq HD.out (by kernel_rfl)) ?_)
    have hs1 : wc.heap.size ≤ w1.heap.size := HB1.out.size
    obtain ⟨w3, hw3⟩ : ∃ w3, w3 = (w1.setCell ⟨m, 198, none⟩ (.pointer (some ⟨sb, 0, none⟩))).alloc (.cells dc 67) := ⟨_, rfl⟩
    rw [← hw3]
    have hs2 : (w1.setCell ⟨m, 198, none⟩ (.pointer (some ⟨sb, 0, none⟩))).heap.size = w1.heap.size := World.size_setCell ..
    have hs3 : w3.heap.size = w1.heap.size + 1 := by rw [hw3, hsz, hs2]
    have a3 : ∀ b, b < w1.heap.size → w3.heap[b]? = (w1.setCell ⟨m, 198, none⟩ (.pointer (some ⟨sb, 0, none⟩))).heap[b]? := fun b h => by rw [hw3]; exact Below.heap_alloc _ _ _ (by omega)
    have b3 : ∀ b, b < w1.heap.size → b ≠ m → w3.heap[b]? = w1.heap[b]? := fun b h hne => by rw [a3 b h, Below.heap_setCell _ _ _ _ hne]
    have e3 : ∀ k, k ≠ 198 → w3.cell? ⟨m, k, none⟩ = cells[k]? := fun k hk => by
      rw [World.cell?_of_block (a := ⟨m, k, none⟩) (a3 m (by omega)), World.cell?_setCell_other _ _ _ _ (by intro e; injection e; omega), HB1.out.cell hml, HL.out]
    have s3 : w3.cell? ⟨m, 198, none⟩ = some (.pointer (some ⟨sb, 0, none⟩)) := by
      rw [World.cell?_of_block (a := ⟨m, 198, none⟩) (a3 m (by omega))]; exact World.cell?_setCell_same _ _ _ g198
    have f3 : ∀ k, w3.frozen? ⟨m, k, none⟩ = false := fun k => by
      rw [World.frozen?_of_block (a := ⟨m, k, none⟩) (a3 m (by omega)), World.frozen?_setCell, HB1.out.frozen hml]; exact HF.out k
    have d3 : ∀ k, w3.cell? ⟨w1.heap.size, k, none⟩ = dc[k]? := fun k => by
      rw [hw3, ← hs2]; exact World.cell?_alloc_mark ..
    have t3 : w3.os = w1.os ∧ w3.tape = w1.tape ∧ w3.output = w1.output := by rw [hw3]; exact ⟨rfl, rfl, rfl⟩
    clear hw3 a3
    refine (mkeep m w1.heap.size (stA p).toList p (st_isSet p) w3 (by omega) (fun j v hj => by rw [e3 _ (by have := (List.getElem?_eq_some_iff.1 hj).1; simp [stA] at this; omega)]; exact HC.out.range j v hj) ((d3 38).trans hd38)
      ((e3 55 (by omega)).trans HC.out.c55) ((e3 56 (by omega)).trans HC.out.c56) ((e3 57 (by omega)).trans HC.out.c57) ((e3 58 (by omega)).trans HC.out.c58) f3).mono ?_
    rintro e w4 ⟨rfl, hk4⟩
    have hs4 := hk4.size
    obtain ⟨idv, hid⟩ := HC.out.c6
    have g6 : w4.cell? ⟨m, 6, none⟩ = some (.int .u64 idv) := by rw [hk4.cell 6 (by omega), e3 6 (by omega)]; exact hid
    have H4 := hideIt hk4
    have HG := hideIt g198
    have H3 := hideIt (And.intro e3 (And.intro s3 (And.intro f3 (And.intro d3 (And.intro b3 t3)))))
    clear hk4 e3 s3 f3 d3 b3 t3 g198 gfr
    go_wp2_with fail
    obtain ⟨e3, s3, f3, d3, b3, t3⟩ := H3.out
    have hs5 : (w4.alloc (.cells #[.int .u64 idv] 29)).heap.size = w4.heap.size + 1 := hsz _ _
    obtain ⟨w5, hw5⟩ : ∃ w5, w5 = w4.alloc (.cells #[.int .u64 idv] 29) := ⟨_, rfl⟩
    rw [← hw5] at hs5 ⊢
    have a5 : ∀ b, b < w4.heap.size → w5.heap[b]? = w4.heap[b]? := fun b h => by rw [hw5]; exact Below.heap_alloc _ _ _ h
    have e5 : ∀ k, k ≠ 198 → (k < 55 ∨ 58 < k) → w5.cell? ⟨m, k, none⟩ = cells[k]? := fun k h1 h2 => by
      rw [World.cell?_of_block (a := ⟨m, k, none⟩) (a5 m (by omega)), H4.out.cell k h2, e3 k h1]
    have s5 : w5.cell? ⟨m, 198, none⟩ = some (.pointer (some ⟨sb, 0, none⟩)) := by
      rw [World.cell?_of_block (a := ⟨m, 198, none⟩) (a5 m (by omega)), H4.out.cell 198 (by omega), s3]
    have f5 : ∀ k, w5.frozen? ⟨m, k, none⟩ = false := fun k => by
      rw [World.frozen?_of_block (a := ⟨m, k, none⟩) (a5 m (by omega)), H4.out.frozen k, f3]
    have b5 : ∀ b, b < w1.heap.size → b ≠ m → w5.heap[b]? = w1.heap[b]? := fun b h hne => by rw [a5 b (by omega), H4.out.block b (by omega) hne, b3 b h hne]
    have d5 : ∀ k, w5.cell? ⟨w1.heap.size, k, none⟩ = dc[k]? := fun k => by
      rw [World.cell?_of_block (a := ⟨w1.heap.size, k, none⟩) ((a5 w1.heap.size (by omega)).trans (H4.out.block w1.heap.size (by omega) (by omega))), d3]
    have t5 : w5.os = w1.os ∧ w5.tape = w1.tape ∧ w5.output = w1.output := by rw [hw5]; exact ⟨H4.out.os.trans t3.1, H4.out.tape.trans t3.2.1, H4.out.output.trans t3.2.2⟩
    have b5o : ∀ b, b < w.heap.size → w5.heap[b]? = w.heap[b]? := fun b h => by rw [b5 b (by omega) (by omega), HB1.out.block b (by omega), HB.out.block b h]
    have o5 : w5.cell? ⟨ob, 0, none⟩ = some (.int .i64 0) := by rw [World.cell?_of_block (a := ⟨ob, 0, none⟩) (b5o ob hob)]; exact HO.out
    have of5 : w5.frozen? ⟨ob, 0, none⟩ = false := by rw [World.frozen?_of_block (a := ⟨ob, 0, none⟩) (b5o ob hob)]; exact HOF.out
    clear hw5
    refine (deliver_any m w1.heap.size ob w4.heap.size w5 (by omega) (by omega) (by omega) (by omega) ((e5 176 (by omega) (by omega)).trans HC.out.c176) ((e5 42 (by omega) (by omega)).trans HC.out.c42) ((e5 43 (by omega) (by omega)).trans HC.out.c43)
      ((e5 7 (by omega) (by omega)).trans HC.out.c7) ((e5 8 (by omega) (by omega)).trans HC.out.c8) ((e5 4 (by omega) (by omega)).trans HC.out.c4) ((e5 41 (by omega) (by omega)).trans HC.out.c41) ((e5 186 (by omega) (by omega)).trans HC.out.c186)
      ((e5 0 (by omega) (by omega)).trans HC.out.c0) ((d5 0).trans hd0) ((d5 4).trans hd4) ((d5 6).trans hd6) o5 of5).mono ?_
    rintro e w6 ⟨rfl, hk6⟩
    have c6 : ∀ k, w6.cell? ⟨m, k, none⟩ = w5.cell? ⟨m, k, none⟩ := fun k => World.cell?_of_block (a := ⟨m, k, none⟩) (hk6.block m (by omega) (by omega))
    have hs6 := hk6.size
    have hsl : sb < w1.heap.size := World.block_lt_of_cell? w1 _ HSB.out
    have fin : sb ≠ m ∧ w6.rangeAt m 19 (stA p).toList
      ∧ (∃ v, w6.cell? ⟨m, 37, none⟩ = some v) ∧ (∃ v, w6.cell? ⟨m, 38, none⟩ = some v) ∧ (∀ k, w6.frozen? ⟨m, k, none⟩ = false) ∧ w6.cell? ⟨m, 198, none⟩ = some (.pointer (some ⟨sb, 0, none⟩)) ∧ w6.cell? ⟨sb, 0, none⟩ = some (.slice none 0 0) ∧ KeptO ob w w6 := by
      refine ⟨by omega, fun j v hj => ?_, ?_, ?_, fun k => ?_, (c6 198).trans s5, ?_, ?_⟩
      · have hl := (List.getElem?_eq_some_iff.1 hj).1
        simp [stA] at hl
        rw [c6, e5 _ (by omega) (by omega)]
        exact HC.out.range j v hj
      · obtain ⟨v, hv⟩ := HC.out.c37
        exact ⟨v, by rw [c6, e5 _ (by omega) (by omega)]; exact hv⟩
      · obtain ⟨v, hv⟩ := HC.out.c38
        exact ⟨v, by rw [c6, e5 _ (by omega) (by omega)]; exact hv⟩
      · rw [World.frozen?_of_block (a := ⟨m, k, none⟩) (hk6.block m (by omega) (by omega))]
        exact f5 k
      · rw [World.cell?_of_block (a := ⟨sb, 0, none⟩) ((hk6.block sb (by omega) (by omega)).trans (b5 sb hsl (by omega)))]
        exact HSB.out
      · exact ⟨hk6.os.trans (t5.1.trans (HB1.out.os.trans HB.out.os)), hk6.tape.trans (t5.2.1.trans (HB1.out.tape.trans HB.out.tape)), hk6.output.trans (t5.2.2.trans (HB1.out.output.trans HB.out.output)), by omega, fun b hlt hne => by rw [hk6.block b (by omega) hne]; exact b5o b hlt⟩
    have HFIN := hideIt fin
    clear fin e3 s3 f3 d3 b3 t3 e5 s5 f5 b5 d5 t5 b5o o5 of5 c6 a5
    go_wp2_with fail
    go_ret
    exact ⟨m, sb, rfl, hm, HFIN.out⟩
end Go.Proofs.Ybulkashs
