/- The walks of peers.len (7), lonePeer (8), window (9), and the law (3) out of the contract of zzs2189anew. -/
import Derived.Test.YbulkashsSet
namespace Go.Proofs.Ybulkashs
open Go.RowKit Go.Sort

/-- The member in block m, its sequencer in block sb: what the law reads of them. -/
structure IsMem (w : World) (m sb : Nat) (st : List Value) (buf alo : Int) : Prop where
  set : w.rangeAt m 19 st
  buf : w.cell? ⟨m, 37, none⟩ = some (.int .i64 buf)
  alo : w.cell? ⟨m, 38, none⟩ = some (.int .i64 alo)
  sq : w.cell? ⟨m, 198, none⟩ = some (.pointer (some ⟨sb, 0, none⟩))
  all : w.cell? ⟨sb, 0, none⟩ = some (.slice none 0 0)

theorem IsMem.below {w w' : World} {m sb : Nat} {st : List Value} {buf alo : Int} (h : IsMem w m sb st buf alo) (hb : Below w.heap.size w w') : IsMem w' m sb st buf alo := by
  have e : ∀ (a : Addr) (v : Value), w.cell? a = some v → w'.cell? a = some v := fun a v hv => by rw [hb.cell (World.block_lt_of_cell? w _ hv)]; exact hv
  exact ⟨range_below h.set hb, e _ _ h.buf, e _ _ h.alo, e _ _ h.sq, e _ _ h.all⟩

theorem len_any (sb : Nat) (w : World) (h : w.cell? ⟨sb, 0, none⟩ = some (.slice none 0 0)) :
    Calls Yba.prog 7 #[.pointer (some ⟨sb, 0, none⟩)] w fun e w' => e = .returned (.int .i64 0) ∧ w' = w := by
  go_enter Yba.func7, Yba.ntmps7
  go_wp2
  go_ret
  exact ⟨rfl, rfl⟩

theorem lone_any (sb : Nat) (v : Value) (w : World) (h : w.cell? ⟨sb, 0, none⟩ = some (.slice none 0 0)) :
    Calls Yba.prog 8 #[.pointer (some ⟨sb, 0, none⟩), v] w fun e w' => e = .returned (.pointer none) ∧ w' = w := by
  go_enter Yba.func8, Yba.ntmps8
  go_wp2_with (go_at_call 7; refine (len_any sb _ h).mono ?_; rintro e w' ⟨rfl, rfl⟩)
  go_ret
  exact ⟨rfl, rfl⟩

/-- The window out of the socket's room. -/
def winV (x : Int) : Int := if 212992 < x then x - 81920 else 131072

theorem ret_true {b : Bool} (h : b = true) : Ending.returned (.bool b) = .returned (.bool true) := by rw [h]

theorem ret_int {a b : Int} (h : a = b) : Ending.returned (.int .i64 a) = .returned (.int .i64 b) := by rw [h]

set_option maxHeartbeats 2000000 in
set_option maxRecDepth 100000 in
theorem window_any (m sb : Nat) (st : List Value) (ptp : Bool) (buf alo : Int) (w : World) (hs : IsSet st ptp) (h : IsMem w m sb st buf alo)
    (b1 : -1099511627776 ≤ buf) (b2 : buf ≤ 1099511627776) (a1 : -1099511627776 ≤ alo) (a2 : alo ≤ 1099511627776) :
    Calls Yba.prog 9 #[.pointer (some ⟨m, 0, none⟩)] w fun e w' => e = .returned (.int .i64 (winV (if ptp then alo else buf))) ∧ Below w.heap.size w w' := by
  have HR := hideIt (range_regrown h.set)
  have HS := hideIt hs
  have HM := hideIt h
  have k1 : ∀ d os, (grow (redrawn w d) os).cell? ⟨m, 198, none⟩ = some (.pointer (some ⟨sb, 0, none⟩)) := fun d os => cell_regrown h.sq d os
  have c7 := fun d os => Ybulkashs.Calls.regrown_same (len_any sb (grow (redrawn w d) os) (cell_regrown h.all d os))
  have c6 := fun d os => Calls.regrown_of (posts_any st ptp hs 0 (grow (redrawn w d) os))
  have H7 := hideIt c7
  have H6 := hideIt c6
  clear c7 c6 hs h
  go_enter Yba.func9, Yba.ntmps9
  go_wp2_with fail
  refine wp_region_quiet_below (by kernel_rfl) (by kernel_rfl) ?_
  repeat (first | (refine wpQuiet_load50 m 19 st rfl HR.out HS.out.len ?_) | (quiet_step (first | (go_at_call 7; exact H7.out _ _) | (go_at_call 6; exact H6.out _ _))))
  refine wpQuiet_nil ?_
  intro _ hw'
  obtain ⟨⟨dq, osq⟩, hw''⟩ := hw'
  have hb : Below w.heap.size w (grow (redrawn w dq) osq) := below_regrown _ dq osq
  have hm := HM.out.below hb
  subst hw''
  clear k1
  obtain ⟨W, hW⟩ : ∃ W, W = grow (redrawn w dq) osq := ⟨_, rfl⟩
  rw [← hW] at hm hb ⊢
  clear hW
  have m8 : W.cell? ⟨m, 27, none⟩ = some (.bool ptp) := hm.set 8 _ HS.out.c8
  have m37 := hm.buf
  have m38 := hm.alo
  have m198 := hm.sq
  have mall := hm.all
  clear hm
  cases ptp
  · go_wp2_with (go_at_call 8; refine (lone_any sb _ _ mall).mono ?_; rintro e w' ⟨rfl, rfl⟩)
    all_goals (go_ret; exact ⟨ret_int (by simp [winV]; omega), hb⟩)
  · go_wp2_with (go_at_call 8; refine (lone_any sb _ _ mall).mono ?_; rintro e w' ⟨rfl, rfl⟩)
    all_goals (go_ret; exact ⟨ret_int (by simp [winV]; omega), hb⟩)

/-- What zzs2189anew hands back. -/
def NewSaid : Prop := ∀ (p : Bool) (b a : Int) (w : World), Calls Yba.prog 5 #[.bool p, .int .i64 b, .int .i64 a] w fun e w' =>
  ∃ m sb st, e = .returned (.pointer (some ⟨m, 0, none⟩)) ∧ IsSet st p ∧ IsMem w' m sb st b a ∧ Below w.heap.size w w'

set_option maxHeartbeats 2000000 in
set_option maxRecDepth 100000 in
theorem law_main (hnew : NewSaid) (p : Bool) (b a : Int) (w : World) (b1 : -1099511627776 ≤ b) (b2 : b ≤ 1099511627776) (a1 : -1099511627776 ≤ a) (a2 : a ≤ 1099511627776) :
    Calls Yba.prog 3 #[.bool p, .int .i64 b, .int .i64 a] w fun e w' => e = .returned (.bool true) ∧ Below w.heap.size w w' := by
  go_enter Yba.func3, Yba.ntmps3
  go_wp2_with fail
  refine (hnew p b a _).mono ?_
  rintro e w1 ⟨m, sb, st, rfl, hs, h, hb1⟩
  have HR := hideIt (range_regrown h.set)
  have HS := hideIt hs
  have HM := hideIt h
  have k1 : ∀ d os, (grow (redrawn w1 d) os).cell? ⟨m, 198, none⟩ = some (.pointer (some ⟨sb, 0, none⟩)) := fun d os => cell_regrown h.sq d os
  have c7 := fun d os => Ybulkashs.Calls.regrown_same (len_any sb (grow (redrawn w1 d) os) (cell_regrown h.all d os))
  have c6 := fun d os => Calls.regrown_of (posts_any st p hs 0 (grow (redrawn w1 d) os))
  have H7 := hideIt c7
  have H6 := hideIt c6
  have HN := hideIt hnew
  clear c7 c6 hs h hnew
  go_wp2_with fail
  refine wp_region_quiet_below (by kernel_rfl) (by kernel_rfl) ?_
  repeat (first | (refine wpQuiet_load50 m 19 st rfl HR.out HS.out.len ?_) | (quiet_step (first | (go_at_call 7; exact H7.out _ _) | (go_at_call 6; exact H6.out _ _))))
  refine wpQuiet_nil ?_
  intro _ hw'
  obtain ⟨⟨dq, osq⟩, hw''⟩ := hw'
  have hb2 : Below w1.heap.size w1 (grow (redrawn w1 dq) osq) := below_regrown _ dq osq
  have hm := HM.out.below hb2
  subst hw''
  clear k1
  obtain ⟨W, hW⟩ : ∃ W, W = grow (redrawn w1 dq) osq := ⟨_, rfl⟩
  rw [← hW] at hm hb2 ⊢
  clear hW
  have m198 := hm.sq
  have mall := hm.all
  have HM2 := hideIt hm
  have HB := hideIt (hb1.trans (hb2.mono hb1.size))
  clear hm HM HR H7 H6 hb1 hb2
  cases p
  · skip
    by_cases hlt : b - 81920 < 131072
    all_goals
      go_wp2_with (go_at_call 8; refine (lone_any sb _ _ mall).mono ?_; rintro e w' ⟨rfl, rfl⟩)
      refine (window_any m sb st _ b a _ HS.out HM2.out b1 b2 a1 a2).mono ?_
      rintro e w2 ⟨rfl, hb2⟩
      go_wp2
      go_ret
      exact ⟨ret_true (by simp [winV]; omega), HB.out.trans (hb2.mono HB.out.size)⟩
  · skip
    by_cases hlt : a - 81920 < 131072
    all_goals
      go_wp2_with (go_at_call 8; refine (lone_any sb _ _ mall).mono ?_; rintro e w' ⟨rfl, rfl⟩)
      refine (window_any m sb st _ b a _ HS.out HM2.out b1 b2 a1 a2).mono ?_
      rintro e w2 ⟨rfl, hb2⟩
      go_wp2
      go_ret
      exact ⟨ret_true (by simp [winV]; omega), HB.out.trans (hb2.mono HB.out.size)⟩

theorem law_any (hnew : NewSaid) (p : Bool) (b a : Int) (w : World) :
    Calls Yba.prog 3 #[.bool p, .int .i64 b, .int .i64 a] w fun e w' => e = .returned (.bool true) ∧ Below w.heap.size w w' := by
  by_cases h1 : b < -1099511627776
  · go_enter Yba.func3, Yba.ntmps3
    go_wp2
    go_ret
    exact ⟨rfl, Below.refl _ _⟩
  · by_cases h2 : 1099511627776 < b
    · go_enter Yba.func3, Yba.ntmps3
      go_wp2
      go_ret
      exact ⟨rfl, Below.refl _ _⟩
    · by_cases h3 : a < -1099511627776
      · go_enter Yba.func3, Yba.ntmps3
        go_wp2
        go_ret
        exact ⟨rfl, Below.refl _ _⟩
      · by_cases h4 : 1099511627776 < a
        · go_enter Yba.func3, Yba.ntmps3
          go_wp2
          go_ret
          exact ⟨rfl, Below.refl _ _⟩
        · exact law_main hnew p b a w (by omega) (by omega) (by omega) (by omega)
end Go.Proofs.Ybulkashs
