/- The waiting (17) as wait calls it. -/
import Derived.Test.YbulkasdyReady
import Derived.Test.YbulkasdySig
import Derived.Defers
namespace Go.Proofs.Ybulkasdy
open Go.RowKit Go.Maps Go.MuLone

theorem IsBools.kx {X : Nat → Prop} {w w' : World} {v : Value} {n : Nat} {f : Nat → Bool} (h : IsBools w v n f) (hk : Kx X w w') (h1 : ∀ b x, w.cell? ⟨b, 0, none⟩ = some (.bool x) → ¬ X b) : IsBools w' v n f := by
  obtain ⟨hn, q, c, rfl, hq⟩ := h
  refine ⟨hn, q, c, rfl, fun hp => ?_⟩
  obtain ⟨b, hb, hc⟩ := hq hp
  exact ⟨b, hb, fun k hk' => by rw [hk.cell (a := ⟨b, k, none⟩) (World.block_lt_of_cell? w _ (hc k hk')) (h1 b _ (hc 0 hp))]; exact hc k hk'⟩

/-- What the waiting leaves. -/
def P17 (L lgV n xb cb sb : Nat) (ev : Value) (ans : Bool) (y : Int) (f : Nat → Bool) (w : World) (er : Value) (w' : World) : Prop :=
  Kx (fun b => b = L ∨ b = lgV ∨ b = cb ∨ b = sb) w w' ∧ w'.cell? ⟨L, 0, none⟩ = some (.int .i32 y) ∧ w'.cell? ⟨L, 1, none⟩ = some (.int .i32 1) ∧ w'.frozen? ⟨L, 1, none⟩ = false ∧ w'.cell? ⟨xb, 2, none⟩ = some ev ∧
    ∃ a1 a2 a3, w'.cell? ⟨lgV, 0, none⟩ = some (.slice a1 a2 a3) ∧ (anyTo f n = false → Value.slice a1 a2 a3 = .slice none 0 0 ∧ er = .nilIface ∧ w'.cell? ⟨cb, 0, none⟩ = some (.int .i64 0)) ∧
      (anyTo f n = true → IsBools w' (.slice a1 a2 a3) n f ∧ w'.cell? ⟨cb, 0, none⟩ = some (.int .i64 1) ∧ (∃ v', w'.cell? ⟨sb, 0, none⟩ = some v' ∧ IsBools w' v' n f) ∧ er = if ans then .nilIface else ev)

theorem wait17 (lV lgV kV fV sV L MB n c xb dc cb sb ab nk : Nat) (kv ev : Value) (q : Nat → Int) (flush ans : Bool) (y : Int) (sf wf : Nat → Int) (sc wc : Nat → Nat → Int) (sp wp : Nat → Nat → Bool) (f : Nat → Bool) (w : World)
    (hf : ∀ j, j < n → f j = lagV (sf j) (wf j) flush (sc j) (wc j) (sp j) (wp j) q nk) (h : RdAt lV lgV kV fV sV L MB n c cb sb ab nk kv q flush ans 0 sf wf sc wc sp wp w) (hs : SigAt L xb dc ev w)
    (hy : w.cell? ⟨L, 0, none⟩ = some (.int .i32 y)) (n1 : L ≠ cb) (n2 : L ≠ sb) (n3 : cb ≠ xb) (n4 : sb ≠ xb) (n5 : lgV ≠ xb) :
    Calls Yba.prog 17 #[.pointer (some ⟨L, 4, none⟩), .iface 59 (.pointer (some ⟨xb, 0, none⟩)), .pointer (some ⟨L, 1, none⟩), .func (.func 18) #[] #[.pointer (some ⟨lV, 0, none⟩), .pointer (some ⟨lgV, 0, none⟩), .pointer (some ⟨kV, 0, none⟩), .pointer (some ⟨fV, 0, none⟩), .pointer (some ⟨sV, 0, none⟩)]] w
      fun e w' => ∃ er, e = .returned er ∧ P17 L lgV n xb cb sb ev ans y f w er w' := by
  have hr := ready18 lV lgV kV fV sV L MB n c cb sb ab nk kv q flush ans 0 sf wf sc wc sp wp f w (by omega) (by omega) hf h
  have lL : L < w.heap.size := World.block_lt_of_cell? w _ hy
  have lx : xb < w.heap.size := World.block_lt_of_cell? w _ hs.err
  have A := h.apart
  have A2 := A.2.1
  have nL : ¬ (L = lgV ∨ L = cb ∨ L = sb) := fun e => e.elim (fun e => A2 e.symm) (fun e => e.elim n1 n2)
  have nx : ¬ (xb = lgV ∨ xb = cb ∨ xb = sb) := fun e => e.elim (fun e => n5 e.symm) (fun e => e.elim (fun e => n3 e.symm) (fun e => n4 e.symm))
  cases han : anyTo f n with
  | false =>
    refine (swait_true L _ _ _ _ _ _ (fun w' => w'.cell? ⟨lgV, 0, none⟩ = some (.slice none 0 0) ∧ Kx (fun b => b = lgV) w w') w (hr.mono ?_)).mono ?_
    · rintro e w' (⟨_, rfl, h1, h2⟩ | ⟨h1, _⟩)
      · exact ⟨rfl, h1, h2⟩
      · rw [han] at h1; cases h1
    · rintro e w' ⟨rfl, h1, h2⟩
      have hL : ∀ k, w'.cell? ⟨L, k, none⟩ = w.cell? ⟨L, k, none⟩ := fun k => h2.cell (a := ⟨L, k, none⟩) lL (fun e => A.2.1 e.symm)
      refine ⟨_, rfl, h2.mono (fun _ _ e => .inr (.inl e)), (hL 0).trans hy, (hL 1).trans hs.mu, (h2.frozen (a := ⟨L, 1, none⟩) lL (fun e => A.2.1 e.symm)).trans hs.fmu, (h2.cell (a := ⟨xb, 2, none⟩) lx (fun e => n5 e.symm)).trans hs.err, none, 0, 0, h1, fun _ => ⟨rfl, rfl, ?_⟩, fun h => by rw [han] at h; cases h⟩
      exact (h2.cell (a := ⟨cb, 0, none⟩) (World.block_lt_of_cell? w _ h.cal) (fun e => A.2.2.2.2.2.2.1 e.symm)).trans h.cal
  | true =>
    have hsig : ∀ w', Kx (fun b => b = lgV ∨ b = cb ∨ b = sb) w w' → SigAt L xb dc ev w' := fun w' hk => by
      have hL : ∀ k, w'.cell? ⟨L, k, none⟩ = w.cell? ⟨L, k, none⟩ := fun k => hk.cell (a := ⟨L, k, none⟩) lL nL
      have hX : ∀ k, w'.cell? ⟨xb, k, none⟩ = w.cell? ⟨xb, k, none⟩ := fun k => hk.cell (a := ⟨xb, k, none⟩) lx nx
      have hF : ∀ k, w'.frozen? ⟨L, k, none⟩ = w.frozen? ⟨L, k, none⟩ := fun k => hk.frozen (a := ⟨L, k, none⟩) lL nL
      have nd : ¬ (dc = lgV ∨ dc = cb ∨ dc = sb) := by
        obtain ⟨u1, u2, u3, hu⟩ := h.lag
        obtain ⟨us, hus⟩ := h.seen
        have hcal := h.cal
        rintro (e | e | e)
        · subst e; simp [World.cell?, hs.chan] at hu
        · subst e; simp [World.cell?, hs.chan] at hcal
        · subst e; simp [World.cell?, hs.chan] at hus
      exact ⟨(hL 4).trans hs.next, (hF 4).trans hs.fnext, (hL 1).trans hs.mu, (hF 1).trans hs.fmu, (hX 1).trans hs.done, (hX 2).trans hs.err, (hk.block dc (Array.getElem?_eq_some_iff.1 hs.chan).1 nd).trans hs.chan, hs.ne⟩
    cases hans : ans with
    | true =>
      refine (swait_true L _ _ _ _ _ _ (fun w' => (∃ v, w'.cell? ⟨lgV, 0, none⟩ = some v ∧ IsBools w' v n f) ∧ w'.cell? ⟨cb, 0, none⟩ = some (.int .i64 (0 + 1)) ∧ (∃ v, w'.cell? ⟨sb, 0, none⟩ = some v ∧ IsBools w' v n f) ∧ Kx (fun b => b = lgV ∨ b = cb ∨ b = sb) w w') w (hr.mono ?_)).mono ?_
      · rintro e w' (⟨h1, _⟩ | ⟨_, rfl, h1, h2, h3, h4⟩)
        · rw [han] at h1; cases h1
        · exact ⟨by rw [hans], h1, h2, h3, h4⟩
      · rintro e w' ⟨rfl, ⟨v, hv, hb⟩, h2, h3, h4⟩
        obtain ⟨_, a1, a3, rfl, _⟩ := id hb
        have hsg := hsig w' h4
        exact ⟨_, rfl, h4.mono (fun _ _ e => .inr e), (h4.cell (a := ⟨L, 0, none⟩) lL nL).trans hy, hsg.mu, hsg.fmu, hsg.err, a1, n, a3, hv, (fun h => by rw [han] at h; cases h), fun _ => ⟨hb, h2, h3, rfl⟩⟩
    | false =>
      refine (swait_false L xb dc ev _ _ _ _ _ (fun w' => (∃ v, w'.cell? ⟨lgV, 0, none⟩ = some v ∧ IsBools w' v n f) ∧ w'.cell? ⟨cb, 0, none⟩ = some (.int .i64 (0 + 1)) ∧ (∃ v, w'.cell? ⟨sb, 0, none⟩ = some v ∧ IsBools w' v n f) ∧ Kx (fun b => b = lgV ∨ b = cb ∨ b = sb) w w') w (hr.mono ?_)).mono ?_
      · rintro e w' (⟨h1, _⟩ | ⟨_, rfl, h1, h2, h3, h4⟩)
        · rw [han] at h1; cases h1
        · exact ⟨by rw [hans], ⟨h1, h2, h3, h4⟩, hsig w' h4⟩
      · rintro e w' ⟨rfl, w1, ⟨⟨v, hv, hb⟩, h2, ⟨v2, hv2, hb2⟩, h4⟩, hsg, hw'⟩
        obtain ⟨_, a1, a3, rfl, _⟩ := id hb
        have lL1 : L < w1.heap.size := World.block_lt_of_cell? w1 _ hsg.mu
        have hk : Kx (fun b => b = L) w1 w' := by
          rw [hw']
          exact ((((Kx.refl (fun b => b = L) w1).alloc _).setCell ⟨L, 4, none⟩ _ (fun _ => rfl)).setCell ⟨L, 1, none⟩ _ (fun _ => rfl)).setCell ⟨L, 1, none⟩ _ (fun _ => rfl)
        have y1 : w1.cell? ⟨L, 0, none⟩ = some (.int .i32 y) := (h4.cell (a := ⟨L, 0, none⟩) lL nL).trans hy
        have hal : ∀ k, (w1.alloc (.chan 0 #[] false 0 0 false)).cell? ⟨L, k, none⟩ = w1.cell? ⟨L, k, none⟩ := fun k => World.cell?_of_block (a := ⟨L, k, none⟩) (Below.heap_alloc _ _ _ lL1)
        have c1 : w'.cell? ⟨L, 0, none⟩ = some (.int .i32 y) := by
          rw [hw', World.cell?_setCell_other _ _ _ _ (by simp), World.cell?_setCell_other _ _ _ _ (by simp), World.cell?_setCell_other _ _ _ _ (by simp), hal]
          exact y1
        have c2 : w'.cell? ⟨L, 1, none⟩ = some (.int .i32 1) := by
          rw [hw']
          refine World.cell?_setCell_same _ _ _ (World.cell?_setCell_same _ _ _ (?_ : _ = some (.int .i32 1)))
          rw [World.cell?_setCell_other _ _ _ _ (by simp), hal]
          exact hsg.mu
        have c3 : w'.frozen? ⟨L, 1, none⟩ = false := by
          rw [hw', World.frozen?_setCell, World.frozen?_setCell, World.frozen?_setCell, World.frozen?_of_block (a := ⟨L, 1, none⟩) (Below.heap_alloc _ _ _ lL1)]
          exact hsg.fmu
        have nb : ∀ b x, w1.cell? ⟨b, 0, none⟩ = some (.bool x) → ¬ b = L := fun b x hb e => by subst e; rw [y1] at hb; cases hb
        have oc : ∀ {b : Nat} {v : Value}, w1.cell? ⟨b, 0, none⟩ = some v → b ≠ L → w'.cell? ⟨b, 0, none⟩ = some v := fun h1 h2 => by rw [hk.cell (World.block_lt_of_cell? w1 _ h1) h2]; exact h1
        refine ⟨_, rfl, ?_, c1, c2, c3, ?_, a1, n, a3, oc hv (fun e => A2 e), (fun h => by rw [han] at h; cases h), fun _ => ⟨hb.kx hk nb, oc h2 (fun e => n1 e.symm), ⟨v2, oc hv2 (fun e => n2 e.symm), hb2.kx hk nb⟩, by simp⟩⟩
        · exact (h4.mono (Y := fun b => b = L ∨ b = lgV ∨ b = cb ∨ b = sb) (fun _ _ e => .inr e)).trans hk (fun _ _ e => .inl e)
        · rw [hk.cell (a := ⟨xb, 2, none⟩) (World.block_lt_of_cell? w1 _ hsg.err) hsg.ne]
          exact hsg.err

end Go.Proofs.Ybulkasdy
