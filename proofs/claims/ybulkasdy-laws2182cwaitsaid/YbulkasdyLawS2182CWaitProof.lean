/- 'Rows.LawS2182CWaitSaid': the walk (YbulkasdyLaw), the arguments' cells (YbulkasdyOpen), and the row's step by the guide's template; the world behind the call is told by 'Below'. -/
import Derived.Test.YbulkasdyRows
import Derived.Test.YbulkasdyOpen
import Derived.WalkKit
import Derived.ProofKit
import Derived.OpenShut
import Derived.Carry
namespace Go.Proofs.Ybulkasdy.lawS2182CWait
open Go.ChangeShapes Go.WideShapes Go.ChangeAt Go.RowKit

theorem own : ownKnob Yba.prog.godebug = none := by kernel_rfl
theorem laidOut : laidOutB Yba.prog = true := by kernel_rfl

set_option maxRecDepth 100000 in
theorem lifted (os : Os) (started : os.Started) (H : Type) (enc : TypeId × Value → H) :
    ReturnsInHanded {} Yba.checked os 3 .any (Rows.lawS2182CWaitSpec.pre6 enc Yba.prog Yba.f3 Rows.lawS2182CWaitRow.domain false) (Rows.lawS2182CWaitSpec.post enc Yba.prog Yba.f3 false true false false) := by
  refine returnsInHanded_of_change (C := Yba.checked) own started (by kernel_rfl) Yba.func3
    (ChangeSpec.witness6 (enc := enc) (C := Yba.checked) false ⟨#[], #[.slice none 0 0, .int .i8 0, .slice none 0 0, .bool false, .bool false], []⟩ 8 (by kernel_rfl) (by kernel_rfl) (by kernel_rfl) (by kernel_rfl)) ?_
  intro W base args ds gs before hval0 hW hcnd _
  have hval : ∀ (j : Nat) t v, Yba.f3.params[j]? = some t → args[j]? = some v → Value.okWide Yba.prog W .any base t v := hval0
  have hW' := hW
  obtain ⟨p, q, hA0, hV, rfl, hfz, hnd⟩ := hW
  have hA : DataW.TrodAll enc Yba.prog W 0 (fun _ => true) true Yba.f3.params.toList args.toList ds p := hA0
  rw [Yba.params3] at hA hval
  obtain ⟨v0, vs0, d0, ds0, p0, q0, hargs, rfl, rfl, h0, r0⟩ := trodAll_cons hA
  obtain ⟨v1, vs1, d1, ds1, p1, q1, rfl, rfl, rfl, h1, r1⟩ := trodAll_cons r0
  obtain ⟨v2, vs2, d2, ds2, p2, q2, rfl, rfl, rfl, h2, r2⟩ := trodAll_cons r1
  obtain ⟨v3, vs3, d3, ds3, p3, q3, rfl, rfl, rfl, h3, r3⟩ := trodAll_cons r2
  obtain ⟨v4, vs4, d4, ds4, p4, q4, rfl, rfl, rfl, h4, r4⟩ := trodAll_cons r3
  obtain ⟨rfl, rfl, rfl⟩ := trodAll_nil r4
  obtain rfl : args = #[v0, v1, v2, v3, v4] := by cases args; simp_all
  obtain ⟨rfl, rfl⟩ := trodVars_none hV
  have k0 := h0
  have k2 := h2
  obtain ⟨s0, n0, c0, rfl⟩ := okWide_slice Yba.underlying22 (hval 0 22 v0 rfl rfl)
  obtain ⟨s2, n2, c2, rfl⟩ := okWide_slice Yba.underlying24 (hval 2 24 v2 rfl rfl)
  obtain ⟨y, rfl, rfl, rfl, wy⟩ := open_int Yba.underlying23 (hval 1 23 v1 rfl rfl) h1
  obtain ⟨flush, rfl, rfl, rfl⟩ := open_bool Yba.underlying4 (hval 3 4 v3 rfl rfl) h3
  obtain ⟨ans, rfl, rfl, rfl⟩ := open_bool Yba.underlying4 (hval 4 4 v4 rfl rfl) h4
  obtain ⟨fu0, hf0⟩ := h0
  obtain ⟨fu2, hf2⟩ := h2
  obtain ⟨mq, n, mc, mb, mo, f, e0, a1, a2, a3⟩ := open_membs (v := .slice s0 n0 c0) hf0
  obtain ⟨kq, nk, kc, kb, ko, kk, e2, b1, b2, b3⟩ := open_keys (v := .slice s2 n2 c2) hf2
  injection e0 with e01 e02 e03
  injection e2 with e21 e22 e23
  subst e01 e02 e03 e21 e22 e23
  clear hA0 hval0
  simp only [List.append_nil, List.nil_append] at hW'
  have hlt : ∀ x ∈ p0 ++ p2, x.block < W.heap.size := fun x hx => by simpa using hW'.lt x (by simpa using hx)
  refine (law3 mb mo kb ko n2 c2 n0 c0 s0 s2 (givenOf f) kk y flush ans W (bounds_i8 wy) (inp_of a1 a2 a3 b1 b2 b3)).mono fun e W' ⟨he, bel⟩ => ?_
  subst he
  have t0 := Below.trod laidOut (by kernel_rfl) (of_decide_eq_true (by kernel_rfl)) k0 bel (fun x hx => hlt x (List.mem_append_left _ hx))
  have t2 := Below.trod laidOut (by kernel_rfl) (of_decide_eq_true (by kernel_rfl)) k2 bel (fun x hx => hlt x (List.mem_append_right _ hx))
  have ta : DataW.TrodAll enc Yba.prog W' 0 (fun b => decide (b < W.heap.size)) true [22, 23, 24, 4, 4] [.slice s0 n0 c0, .int .i8 y, .slice s2 n2 c2, .bool flush, .bool ans] [d0, .lit (.int .i8 y), d2, .lit (.bool flush), .lit (.bool ans)] (p0 ++ p2) := by
    simpa using trodAll_cons_mk t0 (trodAll_cons_mk (shut_int Yba.underlying23 wy) (trodAll_cons_mk t2 (trodAll_cons_mk (shut_bool Yba.underlying4 flush) (trodAll_cons_mk (shut_bool Yba.underlying4 ans) trodAll_mk0))))
  exact ⟨_, rfl, _, _, _, [], p0 ++ p2, [], hW', trodAll_mk1 (shut_bool Yba.underlying4 _), ta, rfl, bel.frame _, fun h => by cases h⟩

theorem over : Rows.lawS2182CWaitRow.holds Yba.pinned (OpenSpec.ofChange Rows.lawS2182CWaitSpec) :=
  OpenClaim.holds_of_wide 3 Yba.f3 rfl rfl rfl rfl rfl rfl rfl ⟨rfl, rfl, rfl, rfl, rfl⟩ rfl rfl rfl rfl rfl (by kernel_rfl) Yba.func3 (by kernel_rfl)
    (of_decide_eq_true (by kernel_rfl)) (by unfold Func.isWrapper; first | (rw [if_pos (by decide +kernel)]; kernel_rfl) | (rw [if_neg (by decide +kernel)]; exact ⟨rfl, rfl⟩))
    (fun os started H enc _ => lifted os started H enc)

/-- The statement. -/
theorem proved : Rows.LawS2182CWaitSaid :=
  over
end Go.Proofs.Ybulkasdy.lawS2182CWait
