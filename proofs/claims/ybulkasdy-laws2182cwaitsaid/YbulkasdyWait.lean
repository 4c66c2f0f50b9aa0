/- The walk of lagging.wait (10). -/
import Derived.Test.YbulkasdyW17
import Derived.Defers
namespace Go.Proofs.Ybulkasdy
open Go.RowKit Go.Maps Go.MuLone

theorem new_cell (w : World) (g : Nat) (v : Value) (t : TypeId) (h : g = w.heap.size) : (w.alloc (.cells #[v] t)).cell? ⟨g, 0, none⟩ = some v := by
  subst h
  rw [World.cell?_alloc_mark]
  rfl

theorem wp_still {c : Code} {K : Act → World → Prop} {Q : Exit → Act → World → Prop} {a : Act} {w : World} (h : c.wp Yba.prog (Exit.then K (fun _ _ _ => False)) a w) : c.wp Yba.prog (Exit.then K Q) a w :=
  wp_mono h fun e a w h => by cases e <;> first | exact h | exact h.elim

/-- What wait reads. -/
structure WtAt (L MB n c xb dc cb sb ab nk : Nat) (kv ev : Value) (q : Nat → Int) (ans : Bool) (y : Int) (sf wf : Nat → Int) (sc wc : Nat → Nat → Int) (sp wp : Nat → Nat → Bool) (w : World) : Prop where
  lags : w.cell? ⟨L, 0, none⟩ = some (.int .i32 y)
  mu : w.cell? ⟨L, 1, none⟩ = some (.int .i32 0)
  mem : w.cell? ⟨L, 3, none⟩ = some (.slice (some ⟨MB, 0, none⟩) n c)
  next : w.cell? ⟨L, 4, none⟩ = some (.chan none)
  fL : ∀ k, w.frozen? ⟨L, k, none⟩ = false
  rows : ∀ j, j < n → MemAt w MB (4 * j) (sf j) (wf j) (sc j) (wc j) (sp j) (wp j)
  strs : IsStrs w kv nk (fun k => tbl (q k))
  done : w.cell? ⟨xb, 1, none⟩ = some (.chan (some dc))
  err : w.cell? ⟨xb, 2, none⟩ = some ev
  chan : w.heap[dc]? = some (.chan 0 #[] true 0 0 false)
  cal : w.cell? ⟨cb, 0, none⟩ = some (.int .i64 0)
  fcal : w.frozen? ⟨cb, 0, none⟩ = false
  seen : ∃ u, w.cell? ⟨sb, 0, none⟩ = some u
  fseen : w.frozen? ⟨sb, 0, none⟩ = false
  an : w.cell? ⟨ab, 0, none⟩ = some (.bool ans)
  le : n ≤ 256
  MBlt : MB < w.heap.size
  apart : L ≠ MB ∧ L ≠ xb ∧ L ≠ cb ∧ L ≠ sb ∧ L ≠ ab ∧ cb ≠ sb ∧ cb ≠ ab ∧ sb ≠ ab ∧ cb ≠ xb ∧ sb ≠ xb

/-- What wait leaves. -/
def WtEnd (L n xb cb sb : Nat) (ev : Value) (ans : Bool) (y : Int) (f : Nat → Bool) (w : World) (v er : Value) (w' : World) : Prop :=
  Kx (fun b => b = L ∨ b = cb ∨ b = sb) w w' ∧ w'.cell? ⟨L, 0, none⟩ = some (.int .i32 y) ∧ w'.cell? ⟨L, 1, none⟩ = some (.int .i32 0) ∧ w'.frozen? ⟨L, 1, none⟩ = false ∧ w'.cell? ⟨xb, 2, none⟩ = some ev ∧
    ((y = 0 ∨ anyTo f n = false) → v = .slice none 0 0 ∧ er = .nilIface ∧ w'.cell? ⟨cb, 0, none⟩ = some (.int .i64 0)) ∧
    (y ≠ 0 → anyTo f n = true → IsBools w' v n f ∧ w'.cell? ⟨cb, 0, none⟩ = some (.int .i64 1) ∧ (∃ v', w'.cell? ⟨sb, 0, none⟩ = some v' ∧ IsBools w' v' n f) ∧ er = if ans then .nilIface else ev)

set_option maxHeartbeats 2000000 in
set_option maxRecDepth 100000 in
theorem wait10 (L MB n c xb dc cb sb ab nk : Nat) (kv ev : Value) (q : Nat → Int) (flush ans : Bool) (y : Int) (sf wf : Nat → Int) (sc wc : Nat → Nat → Int) (sp wp : Nat → Nat → Bool) (f : Nat → Bool) (w : World)
    (hf : ∀ j, j < n → f j = lagV (sf j) (wf j) flush (sc j) (wc j) (sp j) (wp j) q nk) (h : WtAt L MB n c xb dc cb sb ab nk kv ev q ans y sf wf sc wc sp wp w) :
    Calls Yba.prog 10 #[.pointer (some ⟨L, 0, none⟩), .iface 59 (.pointer (some ⟨xb, 0, none⟩)), kv, .bool flush, .func (.func 9) #[] #[.pointer (some ⟨cb, 0, none⟩), .pointer (some ⟨sb, 0, none⟩), .pointer (some ⟨ab, 0, none⟩)]] w fun e w' =>
      ∃ v er, e = .returned (.tuple #[v, er]) ∧ WtEnd L n xb cb sb ev ans y f w v er w' := by
  have hmf : ∀ (fn : Fn) (first cap : Array Value) (w : World), (Instr.makeFunc fn first cap).run Yba.prog w = .ok (.func fn first cap) w := fun _ _ _ _ => rfl
  obtain ⟨kq, kc, ekv, _⟩ := h.strs.is
  subst ekv
  have HH := hideIt h
  have HF := hideIt hf
  clear h hf
  go_enter_defers Yba.func10, Yba.ntmps10
  go_wp2_with fail
  obtain ⟨w0, hw0⟩ : ∃ w0, w0 = ((((w.alloc (.cells #[.pointer (some ⟨L, 0, none⟩)] 28)).alloc (.cells #[.slice kq nk kc] 58)).alloc (.cells #[.bool flush] 4)).alloc (.cells #[.func (.func 9) #[] #[.pointer (some ⟨cb, 0, none⟩), .pointer (some ⟨sb, 0, none⟩), .pointer (some ⟨ab, 0, none⟩)]] 68)) := ⟨_, rfl⟩
  rw [← hw0]
  have K0 : Kx (fun _ => False) w w0 := by rw [hw0]; exact ((((Kx.refl _ _).alloc _).alloc _).alloc _).alloc _
  have hs0 : w0.heap.size = w.heap.size + 4 := by rw [hw0]; simp only [World.size_alloc]
  have b0 : w0.cell? ⟨w.heap.size, 0, none⟩ = some (.pointer (some ⟨L, 0, none⟩)) := by
    rw [hw0]; exact cell_alloc_some (cell_alloc_some (cell_alloc_some (new_cell _ _ _ _ rfl) _) _) _
  have b1 : w0.cell? ⟨w.heap.size + 1, 0, none⟩ = some (.slice kq nk kc) := by
    rw [hw0]; exact cell_alloc_some (cell_alloc_some (new_cell _ _ _ _ (by simp)) _) _
  have b2 : w0.cell? ⟨w.heap.size + 1 + 1, 0, none⟩ = some (.bool flush) := by
    rw [hw0]; exact cell_alloc_some (new_cell _ _ _ _ (by simp)) _
  have b3 : w0.cell? ⟨w.heap.size + 1 + 1 + 1, 0, none⟩ = some (.func (.func 9) #[] #[.pointer (some ⟨cb, 0, none⟩), .pointer (some ⟨sb, 0, none⟩), .pointer (some ⟨ab, 0, none⟩)]) := by
    rw [hw0]; exact new_cell _ _ _ _ (by simp)
  have c0 : ∀ {a : Addr} {v : Value}, w.cell? a = some v → w0.cell? a = some v := fun h => by rw [K0.cell (World.block_lt_of_cell? w _ h) (fun h => h)]; exact h
  have lL : L < w.heap.size := World.block_lt_of_cell? w _ HH.out.lags
  have fz : ∀ {b : Nat} k, b < w.heap.size → w0.frozen? ⟨b, k, none⟩ = w.frozen? ⟨b, k, none⟩ := fun k h => K0.frozen (a := ⟨_, k, none⟩) h (fun h => h)
  have HC := hideIt (fun (a : Addr) (v : Value) => @c0 a v)
  have HFZ := hideIt (fun (b : Nat) (k : Nat) => @fz b k)
  have HK0 := hideIt K0
  have HS0 := hideIt hs0
  clear hw0 c0 fz K0 hs0
  refine (load13 ⟨L, 0, none⟩ y _ (HC.out _ _ HH.out.lags)).mono ?_
  rintro e w' ⟨rfl, hw'⟩
  subst hw'
  by_cases hy : y = 0
  · go_wp2_with fail
    refine ⟨_, results_tmp2 rfl _ _ _, _, _, rfl, HK0.out.mono (fun _ _ h => h.elim), HC.out _ _ HH.out.lags, HC.out _ _ HH.out.mu, (HFZ.out _ _ lL).trans (HH.out.fL 1), HC.out _ _ HH.out.err, fun _ => ⟨rfl, rfl, HC.out _ _ HH.out.cal⟩, fun h => absurd hy h⟩
  · go_wp2_with fail
    refine (lock_free Yba.muLib ⟨L, 1, none⟩ _ (HC.out _ _ HH.out.mu) ((HFZ.out _ _ lL).trans (HH.out.fL 1))).mono ?_
    rintro e w1 ⟨rfl, hw1⟩
    have e1 : ∀ b k, (b ≠ L ∨ k ≠ 1) → w1.cell? ⟨b, k, none⟩ = w'.cell? ⟨b, k, none⟩ := fun b k h => by
      rw [hw1, World.cell?_setCell_other _ _ _ _ (by intro e; injection e with e1 e2; omega)]
    have e2 : w1.cell? ⟨L, 1, none⟩ = some (.int .i32 1) := by rw [hw1]; exact World.cell?_setCell_same _ _ _ (HC.out _ _ HH.out.mu)
    have e3 : ∀ b k, w1.frozen? ⟨b, k, none⟩ = w'.frozen? ⟨b, k, none⟩ := fun b k => by rw [hw1, World.frozen?_setCell]
    have e4 : w1.heap.size = w.heap.size + 4 := by rw [hw1, World.size_setCell]; exact HS0.out
    have e5 : Kx (fun b => b = L) w w1 := by rw [hw1]; exact (HK0.out.mono (fun _ _ h => h.elim)).setCell ⟨L, 1, none⟩ _ (fun _ => rfl)
    have d0 := (e1 w.heap.size 0 (by omega)).trans b0
    have HE := hideIt (And.intro e1 (And.intro e2 (And.intro e3 (And.intro e4 e5))))
    have HY := hideIt hy
    clear hw1 e1 e2 e3 e4 e5 hy
    go_wp2_with fail
    obtain ⟨w2, hw2⟩ : ∃ w2, w2 = (w1.alloc (.cells #[.slice none 0 0] 47)).drew := ⟨_, rfl⟩
    have A := HH.out.apart
    have hw1s := HE.out.2.2.2.1
    have cw : ∀ {b k : Nat} {v : Value}, (b ≠ L ∨ k ≠ 1) → w'.cell? ⟨b, k, none⟩ = some v → w2.cell? ⟨b, k, none⟩ = some v := fun h1 h2 => by
      rw [hw2]; exact cell_alloc_some ((HE.out.1 _ _ h1).trans h2) _
    have cw1 : w2.cell? ⟨L, 1, none⟩ = some (.int .i32 1) := by rw [hw2]; exact cell_alloc_some HE.out.2.1 _
    have k2 : Kx (fun b => b = L) w w2 := by rw [hw2]; exact (HE.out.2.2.2.2.alloc _).drew
    have fw : ∀ {b : Nat} (k : Nat), b < w.heap.size → w2.frozen? ⟨b, k, none⟩ = w.frozen? ⟨b, k, none⟩ := fun {b} k hb => by
      rw [hw2]
      exact (World.frozen?_of_block (a := ⟨b, k, none⟩) (Below.heap_alloc w1 _ b (by omega))).trans ((HE.out.2.2.1 b k).trans (HFZ.out b k hb))
    have clg : w2.cell? ⟨w1.heap.size, 0, none⟩ = some (.slice none 0 0) := by rw [hw2]; exact new_cell w1 _ _ _ rfl
    have flg : w2.frozen? ⟨w1.heap.size, 0, none⟩ = false := by
      have : w2.heap[w1.heap.size]? = some (.cells #[.slice none 0 0] 47 (0, 0)) := by rw [hw2]; exact heap_alloc_new w1 _
      simp [World.frozen?, this]
    have lcb : cb < w.heap.size := World.block_lt_of_cell? w _ HH.out.cal
    obtain ⟨us, hus⟩ := HH.out.seen
    have lsb : sb < w.heap.size := World.block_lt_of_cell? w _ hus
    have lab : ab < w.heap.size := World.block_lt_of_cell? w _ HH.out.an
    have lxb : xb < w.heap.size := World.block_lt_of_cell? w _ HH.out.err
    have ldc : dc < w.heap.size := (Array.getElem?_eq_some_iff.1 HH.out.chan).1
    have lMB := HH.out.MBlt
    have ndc : dc ≠ L := fun e => by
      have h1 := HH.out.mu
      subst e
      simp [World.cell?, HH.out.chan] at h1
    have hrd : RdAt w.heap.size w1.heap.size (w.heap.size + 1) (w.heap.size + 1 + 1) (w.heap.size + 1 + 1 + 1) L MB n c cb sb ab nk (.slice kq nk kc) q flush ans 0 sf wf sc wc sp wp w2 :=
      ⟨cw (.inr (by omega)) b0, cw (.inr (by omega)) (HC.out _ _ HH.out.mem), fun j hj => (HH.out.rows j hj).kx k2 (fun e => A.1 e.symm) (fun b es cl hb e => by have h1 := HH.out.mu; subst e; simp [World.cell?, hb] at h1),
        cw (.inr (by omega)) b1, HH.out.strs.kx k2 (fun b s hb e => by have h1 := HH.out.lags; subst e; rw [h1] at hb; cases hb), cw (.inr (by omega)) b2, cw (.inr (by omega)) b3, ⟨_, _, _, clg⟩, flg,
        cw (.inr (by omega)) (HC.out _ _ HH.out.cal), (fw 0 lcb).trans HH.out.fcal, ⟨us, cw (.inr (by omega)) (HC.out _ _ hus)⟩, (fw 0 lsb).trans HH.out.fseen, cw (.inr (by omega)) (HC.out _ _ HH.out.an), HH.out.le,
        by omega, by omega, by omega, by omega, by omega, by omega, by omega, by omega, by omega, A.2.2.2.2.2.1, A.2.2.2.2.2.2.1, A.2.2.2.2.2.2.2.1⟩
    have hsg : SigAt L xb dc ev w2 :=
      ⟨cw (.inr (by omega)) (HC.out _ _ HH.out.next), (fw 4 lL).trans (HH.out.fL 4), cw1, (fw 1 lL).trans (HH.out.fL 1), cw (.inl (fun e => A.2.1 e.symm)) (HC.out _ _ HH.out.done), cw (.inr (by omega)) (HC.out _ _ HH.out.err), (k2.block dc ldc ndc).trans HH.out.chan, fun e => A.2.1 e.symm⟩
    have h17 := wait17 w.heap.size w1.heap.size (w.heap.size + 1) (w.heap.size + 1 + 1) (w.heap.size + 1 + 1 + 1) L MB n c xb dc cb sb ab nk (.slice kq nk kc) ev q flush ans y sf wf sc wc sp wp f w2 HF.out hrd hsg
      (cw (.inr (by omega)) (HC.out _ _ HH.out.lags)) A.2.2.1 A.2.2.2.1 A.2.2.2.2.2.2.2.2.1 A.2.2.2.2.2.2.2.2.2 (by omega)
    have hS : w2.cell? ⟨w.heap.size, 0, none⟩ = some (.pointer (some ⟨L, 0, none⟩)) := cw (.inr (by omega)) b0
    have H17 := hideIt h17
    have HK2 := hideIt k2
    have HLE := hideIt (And.intro lcb (And.intro lsb lxb))
    refine wp_still ?_
    refine wp_region_held (S := fun W => W.cell? ⟨w.heap.size, 0, none⟩ = some (.pointer (some ⟨L, 0, none⟩))) (by kernel_rfl) ?_
    change wpAnyH _ _ _ _ _ _ _ _ (w1.alloc (.cells #[.slice none 0 0] 47)).drew
    rw [← hw2]
    clear hw2 cw cw1 k2 fw clg flg hrd hsg h17 b0 b1 b2 b3 d0 hus
    refine takeV 0 26 (.pointer (some ⟨L, 0, none⟩)) rfl rfl (by kernel_rfl) (by kernel_rfl) (by kernel_rfl) (fun _ _ _ h => h) (by kernel_rfl) (by intro W hW; go_simp) hS ?_
    refine takeV 1 27 (.pointer (some ⟨L, 0, none⟩)) rfl rfl (by kernel_rfl) (by kernel_rfl) (by kernel_rfl) (fun _ _ _ h => h) (by kernel_rfl) (by intro W _; go_simp) hS ?_
    refine takeV 2 28 (.pointer (some ⟨L, 4, none⟩)) rfl rfl (by kernel_rfl) (by kernel_rfl) (by kernel_rfl) (fun _ _ _ h => h) (by kernel_rfl) (by intro W _; go_simp) hS ?_
    refine takeV 3 29 (.iface 59 (.pointer (some ⟨xb, 0, none⟩))) rfl rfl (by kernel_rfl) (by kernel_rfl) (by kernel_rfl) (fun _ _ _ h => h) (by kernel_rfl) (by intro W _; go_simp) hS ?_
    refine takeV 4 30 (.pointer (some ⟨L, 0, none⟩)) rfl rfl (by kernel_rfl) (by kernel_rfl) (by kernel_rfl) (fun _ _ _ h => h) (by kernel_rfl) (by intro W hW; go_simp) hS ?_
    refine takeV 5 31 (.pointer (some ⟨L, 0, none⟩)) rfl rfl (by kernel_rfl) (by kernel_rfl) (by kernel_rfl) (fun _ _ _ h => h) (by kernel_rfl) (by intro W _; go_simp) hS ?_
    refine takeV 6 32 (.pointer (some ⟨L, 1, none⟩)) rfl rfl (by kernel_rfl) (by kernel_rfl) (by kernel_rfl) (fun _ _ _ h => h) (by kernel_rfl) (by intro W _; go_simp) hS ?_
    refine takeV 7 33 (.func (.func 18) #[] #[.pointer (some ⟨w.heap.size, 0, none⟩), .pointer (some ⟨w1.heap.size, 0, none⟩), .pointer (some ⟨w.heap.size + 1, 0, none⟩), .pointer (some ⟨w.heap.size + 1 + 1, 0, none⟩), .pointer (some ⟨w.heap.size + 1 + 1 + 1, 0, none⟩)]) rfl rfl (by kernel_rfl) (by kernel_rfl) (by kernel_rfl) (fun _ _ _ h => h) (by kernel_rfl) (by intro W _; go_simp) hS ?_
    rw [show (Act.put _ _ _ : Act) = { tmps := #[.pointer (some ⟨L, 0, none⟩), .iface 59 (.pointer (some ⟨xb, 0, none⟩)), .slice kq nk kc, .bool flush, .func (.func 9) #[] #[.pointer (some ⟨cb, 0, none⟩), .pointer (some ⟨sb, 0, none⟩), .pointer (some ⟨ab, 0, none⟩)], .pointer (some ⟨w.heap.size, 0, none⟩), undef, .pointer (some ⟨w.heap.size + 1, 0, none⟩), .pointer (some ⟨w.heap.size + 1 + 1, 0, none⟩), .pointer (some ⟨w.heap.size + 1 + 1 + 1, 0, none⟩), .slice none 0 0, .nilIface, .pointer (some ⟨w1.heap.size, 0, none⟩), undef, .pointer (some ⟨L, 0, none⟩), .pointer (some ⟨L, 0, none⟩), .pointer (some ⟨L, 0, none⟩), .int .i32 y, .bool false, .pointer (some ⟨L, 0, none⟩), .pointer (some ⟨L, 0, none⟩), .pointer (some ⟨L, 1, none⟩), .tuple #[], .pointer (some ⟨L, 0, none⟩), .pointer (some ⟨L, 0, none⟩), .pointer (some ⟨L, 1, none⟩), .pointer (some ⟨L, 0, none⟩), .pointer (some ⟨L, 0, none⟩), .pointer (some ⟨L, 4, none⟩), .iface 59 (.pointer (some ⟨xb, 0, none⟩)), .pointer (some ⟨L, 0, none⟩), .pointer (some ⟨L, 0, none⟩), .pointer (some ⟨L, 1, none⟩), .func (.func 18) #[] #[.pointer (some ⟨w.heap.size, 0, none⟩), .pointer (some ⟨w1.heap.size, 0, none⟩), .pointer (some ⟨w.heap.size + 1, 0, none⟩), .pointer (some ⟨w.heap.size + 1 + 1, 0, none⟩), .pointer (some ⟨w.heap.size + 1 + 1 + 1, 0, none⟩)], undef, undef, undef], defers := [{ target := Target.fn (Fn.func 12) #[], args := #[.pointer (some ⟨L, 1, none⟩)] }] } from by kernel_rfl]
    refine allCall 8 (some 34) 17 #[.pointer (some ⟨L, 4, none⟩), .iface 59 (.pointer (some ⟨xb, 0, none⟩)), .pointer (some ⟨L, 1, none⟩), .func (.func 18) #[] #[.pointer (some ⟨w.heap.size, 0, none⟩), .pointer (some ⟨w1.heap.size, 0, none⟩), .pointer (some ⟨w.heap.size + 1, 0, none⟩), .pointer (some ⟨w.heap.size + 1 + 1, 0, none⟩), .pointer (some ⟨w.heap.size + 1 + 1 + 1, 0, none⟩)]] rfl rfl (by kernel_rfl) (by kernel_rfl) (by go_simp) ?_
    refine H17.out.mono ?_
    rintro e w3 ⟨er, rfl, hp⟩
    have hS3 : w3.cell? ⟨w.heap.size, 0, none⟩ = some (.pointer (some ⟨L, 0, none⟩)) := by
      rw [hp.1.cell (a := ⟨w.heap.size, 0, none⟩) (World.block_lt_of_cell? w2 _ hS) (fun h => by have := HLE.out; simp only at h; omega)]; exact hS
    refine ⟨_, rfl, hS3, ?_⟩
    refine takeV 9 13 er rfl rfl (by kernel_rfl) (by kernel_rfl) (by kernel_rfl) (fun _ _ _ h => h) (by kernel_rfl) (by intro W _; go_simp) hS3 ?_
    refine wpAnyH_done (by kernel_rfl) ?_ _
    obtain ⟨hk, y0, y1, y2, y3, a1, a2, a3, hlg, z1, z2⟩ := hp
    have HP := hideIt (And.intro hk (And.intro y0 (And.intro y1 (And.intro y2 (And.intro y3 (And.intro z1 z2))))))
    have HW1S := hideIt hw1s
    clear hk y0 y1 y2 y3 z1 z2 hw1s
    go_wp2_with fail
    refine leaves_cons (f := 12) (args := #[.pointer (some ⟨L, 1, none⟩)]) (by simp) (by simp [go_sem]) ?_
    refine (unlock_deferred Yba.muLib ⟨L, 1, none⟩ .returning _ HP.out.2.2.1 HP.out.2.2.2.1).mono ?_
    rintro e u' w4 ⟨rfl, rfl, hw4⟩
    obtain ⟨hk, y0, y1, y2, y3, z1, z2⟩ := HP.out
    have hs1 := HW1S.out
    have hle2 := HLE.out
    have hk4 : Kx (fun b => b = L) w3 w4 := by rw [hw4]; exact (Kx.refl (fun b => b = L) w3).setCell ⟨L, 1, none⟩ _ (fun _ => rfl)
    have nb : ∀ b x, w3.cell? ⟨b, 0, none⟩ = some (.bool x) → ¬ b = L := fun b x hb e => by subst e; rw [y0] at hb; cases hb
    have oc : ∀ {b k : Nat} {v : Value}, w3.cell? ⟨b, k, none⟩ = some v → b ≠ L → w4.cell? ⟨b, k, none⟩ = some v := fun h1 h2 => by rw [hk4.cell (World.block_lt_of_cell? w3 _ h1) h2]; exact h1
    refine ⟨_, results_tmp2 rfl _ _ _, _, _, rfl, ?_, ?_, ?_, ?_, ?_, fun h => ?_, fun _ han => ?_⟩
    · refine Kx.trans (Kx.trans (HK2.out.mono (Y := fun b => b = L ∨ b = cb ∨ b = sb) (fun _ _ h => .inl h)) hk (fun b hb h => ?_)) hk4 (fun _ _ h => .inl h)
      rcases h with h | h | h
      · exact .inl h
      · exact absurd h (by omega)
      · exact .inr h
    · rw [hw4, World.cell?_setCell_other _ _ _ _ (by simp)]
      exact y0
    · rw [hw4]
      exact World.cell?_setCell_same _ _ _ y1
    · rw [hw4, World.frozen?_setCell]
      exact y2
    · exact oc y3 (fun e => A.2.1 e.symm)
    · rcases h with h | han
      · exact absurd h HY.out
      · obtain ⟨p1, p2, p3⟩ := z1 han
        exact ⟨p1, p2, oc p3 (fun e => A.2.2.1 e.symm)⟩
    · obtain ⟨p1, p2, ⟨v', p3, p4⟩, p5⟩ := z2 han
      exact ⟨p1.kx hk4 nb, oc p2 (fun e => A.2.2.1 e.symm), ⟨v', oc p3 (fun e => A.2.2.2.1 e.symm), p4.kx hk4 nb⟩, p5⟩
end Go.Proofs.Ybulkasdy
