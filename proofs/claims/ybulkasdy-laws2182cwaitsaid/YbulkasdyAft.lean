/- What the law does behind the waiting (regions 70 to 81). -/
import Derived.Test.YbulkasdyCtx
import Derived.LaidEql
namespace Go.Proofs.Ybulkasdy
open Go.RowKit Go.Maps Go.MuLone

theorem eqSliceNil (w : World) : (binOp .eql 47 (.slice none 0 0) (.slice none 0 0)).run Yba.prog w = .ok (.bool true) w := by kernel_rfl

theorem eqErr (g : Nat) (w : World) : (binOp .eql 64 (.iface 81 (.pointer (some ⟨g, 0, none⟩))) (.iface 81 (.pointer (some ⟨g, 0, none⟩)))).run Yba.prog w = .ok (.bool true) w := by
  obtain ⟨i, hi, hc⟩ := Option.map_eq_some_iff.1 (show (Yba.prog.info? 81).map (fun i => i.comparable) = some true from by kernel_rfl)
  obtain ⟨j, hj, _⟩ := Option.map_eq_some_iff.1 (show (Yba.prog.info? 83).map (fun _ => ()) = some () from by kernel_rfl)
  exact run_eql_iface_ptr_same w ⟨g, 0, none⟩ Yba.underlying64 Yba.underlying81 hi hc hj

noncomputable def aft69 : Code := (Yba.f3.body.bind (findAft 69)).getD .skip

/-- What stands behind the waiting. -/
structure AftAt (w : World) (L EX n xb cb sb ab g : Nat) (ans : Bool) (y : Int) (f : Nat → Bool) (v er : Value) : Prop where
  lags : w.cell? ⟨L, 0, none⟩ = some (.int .i32 y)
  mu : w.cell? ⟨L, 1, none⟩ = some (.int .i32 0)
  fz : w.frozen? ⟨L, 1, none⟩ = false
  err : w.cell? ⟨xb, 2, none⟩ = some (.iface 81 (.pointer (some ⟨g, 0, none⟩)))
  an : w.cell? ⟨ab, 0, none⟩ = some (.bool ans)
  exs : ∀ k, k < n → w.cell? ⟨EX, k, none⟩ = some (.bool (f k))
  le : n ≤ 256
  a : (y = 0 ∨ anyTo f n = false) → v = .slice none 0 0 ∧ er = .nilIface ∧ w.cell? ⟨cb, 0, none⟩ = some (.int .i64 0)
  b : y ≠ 0 → anyTo f n = true → IsBools w v n f ∧ w.cell? ⟨cb, 0, none⟩ = some (.int .i64 1) ∧ (∃ v', w.cell? ⟨sb, 0, none⟩ = some v' ∧ IsBools w v' n f) ∧ er = if ans then .nilIface else .iface 81 (.pointer (some ⟨g, 0, none⟩))
  by0 : -128 ≤ y ∧ y ≤ 127
  ne : L ≠ xb ∧ L ≠ ab ∧ L ≠ cb ∧ L ≠ sb ∧ L ≠ EX

set_option maxHeartbeats 8000000 in
set_option maxRecDepth 1000000 in
theorem fin2 (L EX n xb cb sb ab g : Nat) (ans : Bool) (y : Int) (f : Nat → Bool) (v er : Value) (w : World) (h : AftAt w L EX n xb cb sb ab g ans y f v er)
    (Q : Exit → Act → World → Prop) (s0 s2 s3 s4 s5 s6 s7 s8 s11 s15 s16 s17 s18 s19 s20 s21 s22 s23 s24 s25 s26 s27 s28 s29 s30 s31 s32 s33 s34 s35 s36 s40 s43 s44 s45 s46 s47 s48 s49 s50 s51 s52 s53 s54 s55 s56 s57 s58 s59 s60 s61 s62 s63 s64 s65 s66 s67 s68 s69 s70 s71 s72 s73 s74 s75 s76 s77 s78 s79 s80 s81 s82 s83 s84 s85 s86 s87 s88 s89 s90 s91 s92 s93 s94 s95 s96 s97 s98 s99 s100 s101 s102 s103 s104 s105 s106 s107 s108 s109 s110 s111 s112 s113 s114 s115 s116 s117 s118 s119 s120 s121 s122 s123 s124 s125 s126 s127 s128 s129 s130 s131 s132 s133 s134 s135 s136 s137 s138 s139 s140 s141 s142 s143 s144 s145 s146 s147 s148 s149 s150 s151 s152 s153 s154 s155 s156 s157 s158 s159 s160 s161 s162 s163 s164 s165 s166 s167 s168 s169 s170 s171 s172 s173 s174 s175 s176 s177 s178 s179 s180 s181 s182 s183 s184 s185 s186 s187 s188 s189 s190 s191 s192 s193 s194 s195 s196 s197 s198 s199 s200 s201 s202 s203 s204 s205 s206 s207 s208 s209 s210 s211 s212 s213 s214 s215 s216 s217 s218 s219 s220 s221 s222 s223 s224 s225 s226 s227 s228 s229 s230 s231 s232 s233 s234 s235 s236 s237 s238 s239 s240 s241 s242 s243 s244 s245 s246 s247 s248 s249 s250 s251 s252 s253 s254 s255 s256 s257 s258 s259 s260 s261 s262 s263 s264 s265 s266 s267 s268 s269 s270 s271 s272 s273 s274 s275 s276 s277 s278 s279 s280 s281 s282 s283 s284 s285 s286 s287 s288 s289 s290 s291 s292 s293 s294 s295 s296 s297 s298 s299 s300 s301 s302 s303 s304 s305 : Value)
    (hR : ∀ (x251 x252 x253 x254 x255 x256 x257 x258 x259 x260 x261 x262 x263 x264 x265 x266 x267 x268 x269 x270 x271 x272 x273 x274 x275 x276 x277 x278 x279 x280 x281 x282 x283 x284 x285 x286 x287 x288 x289 x290 x291 x292 x293 x294 x295 x296 x297 x298 x299 x300 x301 x302 x303 x304 x305 : Value) (w' : World), Kx (fun b => b = L) w w' → Q .ret ⟨#[s0, .int .i8 y, s2, s3, s4, s5, s6, s7, s8, .pointer (some ⟨ab, 0, none⟩), .bool true, s11, .pointer (some ⟨L, 0, none⟩), .slice (some ⟨EX, 0, none⟩) n n, .bool (anyTo f n), s15, s16, s17, s18, s19, s20, s21, s22, s23, s24, s25, s26, s27, s28, s29, s30, s31, s32, s33, s34, s35, s36, .pointer (some ⟨xb, 0, none⟩), .pointer (some ⟨cb, 0, none⟩), .pointer (some ⟨sb, 0, none⟩), s40, v, er, s43, s44, s45, s46, s47, s48, s49, s50, s51, s52, s53, s54, s55, s56, s57, s58, s59, s60, s61, s62, s63, s64, s65, s66, s67, s68, s69, s70, s71, s72, s73, s74, s75, s76, s77, s78, s79, s80, s81, s82, s83, s84, s85, s86, s87, s88, s89, s90, s91, s92, s93, s94, s95, s96, s97, s98, s99, s100, s101, s102, s103, s104, s105, s106, s107, s108, s109, s110, s111, s112, s113, s114, s115, s116, s117, s118, s119, s120, s121, s122, s123, s124, s125, s126, s127, s128, s129, s130, s131, s132, s133, s134, s135, s136, s137, s138, s139, s140, s141, s142, s143, s144, s145, s146, s147, s148, s149, s150, s151, s152, s153, s154, s155, s156, s157, s158, s159, s160, s161, s162, s163, s164, s165, s166, s167, s168, s169, s170, s171, s172, s173, s174, s175, s176, s177, s178, s179, s180, s181, s182, s183, s184, s185, s186, s187, s188, s189, s190, s191, s192, s193, s194, s195, s196, s197, s198, s199, s200, s201, s202, s203, s204, s205, s206, s207, s208, s209, s210, s211, s212, s213, s214, s215, s216, s217, s218, s219, s220, s221, s222, s223, s224, s225, s226, s227, s228, s229, s230, s231, s232, s233, s234, s235, s236, s237, s238, s239, s240, s241, s242, s243, s244, s245, s246, s247, s248, s249, s250, x251, x252, x253, x254, x255, x256, x257, x258, x259, x260, x261, x262, x263, x264, x265, x266, x267, x268, x269, x270, x271, x272, x273, x274, x275, x276, x277, x278, x279, x280, x281, x282, x283, x284, x285, x286, x287, x288, x289, x290, x291, x292, x293, x294, x295, x296, x297, x298, x299, x300, x301, x302, x303, x304, x305], []⟩ w') :
    Code.wp Yba.prog aft69 Q ⟨#[s0, .int .i8 y, s2, s3, s4, s5, s6, s7, s8, .pointer (some ⟨ab, 0, none⟩), .bool false, s11, .pointer (some ⟨L, 0, none⟩), .slice (some ⟨EX, 0, none⟩) n n, .bool (anyTo f n), s15, s16, s17, s18, s19, s20, s21, s22, s23, s24, s25, s26, s27, s28, s29, s30, s31, s32, s33, s34, s35, s36, .pointer (some ⟨xb, 0, none⟩), .pointer (some ⟨cb, 0, none⟩), .pointer (some ⟨sb, 0, none⟩), s40, v, er, s43, s44, s45, s46, s47, s48, s49, s50, s51, s52, s53, s54, s55, s56, s57, s58, s59, s60, s61, s62, s63, s64, s65, s66, s67, s68, s69, s70, s71, s72, s73, s74, s75, s76, s77, s78, s79, s80, s81, s82, s83, s84, s85, s86, s87, s88, s89, s90, s91, s92, s93, s94, s95, s96, s97, s98, s99, s100, s101, s102, s103, s104, s105, s106, s107, s108, s109, s110, s111, s112, s113, s114, s115, s116, s117, s118, s119, s120, s121, s122, s123, s124, s125, s126, s127, s128, s129, s130, s131, s132, s133, s134, s135, s136, s137, s138, s139, s140, s141, s142, s143, s144, s145, s146, s147, s148, s149, s150, s151, s152, s153, s154, s155, s156, s157, s158, s159, s160, s161, s162, s163, s164, s165, s166, s167, s168, s169, s170, s171, s172, s173, s174, s175, s176, s177, s178, s179, s180, s181, s182, s183, s184, s185, s186, s187, s188, s189, s190, s191, s192, s193, s194, s195, s196, s197, s198, s199, s200, s201, s202, s203, s204, s205, s206, s207, s208, s209, s210, s211, s212, s213, s214, s215, s216, s217, s218, s219, s220, s221, s222, s223, s224, s225, s226, s227, s228, s229, s230, s231, s232, s233, s234, s235, s236, s237, s238, s239, s240, s241, s242, s243, s244, s245, s246, s247, s248, s249, s250, s251, s252, s253, s254, s255, s256, s257, s258, s259, s260, s261, s262, s263, s264, s265, s266, s267, s268, s269, s270, s271, s272, s273, s274, s275, s276, s277, s278, s279, s280, s281, s282, s283, s284, s285, s286, s287, s288, s289, s290, s291, s292, s293, s294, s295, s296, s297, s298, s299, s300, s301, s302, s303, s304, s305], []⟩ w := by
  have HR := hideIt hR
  have HH := hideIt h
  clear h hR
  have hy := HH.out.by0
  have q47 := eqSliceNil
  have q64 := eqErr g
  have hwr : IntKind.i32.wrap y = y := by rw [IntKind.wrap_i32]; omega
  conv => arg 2; whnf
  go_wp2_with fail
  refine (try11 ⟨L, 1, none⟩ w HH.out.mu HH.out.fz).mono ?_
  rintro e w1 ⟨rfl, hw1⟩
  have m1 : w1.cell? ⟨L, 1, none⟩ = some (.int .i32 1) := by rw [hw1]; exact World.cell?_setCell_same _ _ _ HH.out.mu
  have z1 : w1.frozen? ⟨L, 1, none⟩ = false := by rw [hw1, World.frozen?_setCell]; exact HH.out.fz
  have H1 := hideIt hw1
  clear hw1
  go_wp2_with fail
  refine (unlock_held Yba.muLib ⟨L, 1, none⟩ w1 m1 z1).mono ?_
  rintro e w2 ⟨rfl, hw2⟩
  have c2 : ∀ b k, (b ≠ L ∨ k ≠ 1) → w2.cell? ⟨b, k, none⟩ = w.cell? ⟨b, k, none⟩ := fun b k hb => by
    rw [hw2, H1.out, World.cell?_setCell_other _ _ _ _ (by intro e; injection e with e1 e2; omega), World.cell?_setCell_other _ _ _ _ (by intro e; injection e with e1 e2; omega)]
  have k2 : Kx (fun b => b = L) w w2 := by rw [hw2, H1.out]; exact ((Kx.refl (fun b => b = L) w).setCell ⟨L, 1, none⟩ _ (fun _ => rfl)).setCell ⟨L, 1, none⟩ _ (fun _ => rfl)
  have HC := hideIt c2
  have HK := hideIt k2
  clear hw2 c2 k2 m1 z1
  go_wp2_with fail
  refine (load13 ⟨L, 0, none⟩ y w2 ((HC.out L 0 (.inr (by omega))).trans HH.out.lags)).mono ?_
  rintro e w3 ⟨rfl, hw3⟩
  subst hw3
  by_cases p : y = 0 ∨ anyTo f n = false
  · obtain ⟨rfl, rfl, hcb⟩ := HH.out.a p
    have gcb := (HC.out cb 0 (.inr (by omega))).trans hcb
    clear hcb
    by_cases q0 : y = 0
    · subst q0
      clear p
      go_wp2_with fail
      exact HR.out _ _ _ _ _ _ _ _ _ _ _ _ _ _ _ _ _ _ _ _ _ _ _ _ _ _ _ _ _ _ _ _ _ _ _ _ _ _ _ _ _ _ _ _ _ _ _ _ _ _ _ _ _ _ _ _ HK.out
    · replace p := p.resolve_left q0
      have HP := hideIt p
      rw [p]
      clear p
      go_wp2_with fail
      have z := HR.out; rw [HP.out] at z
      exact z _ _ _ _ _ _ _ _ _ _ _ _ _ _ _ _ _ _ _ _ _ _ _ _ _ _ _ _ _ _ _ _ _ _ _ _ _ _ _ _ _ _ _ _ _ _ _ _ _ _ _ _ _ _ _ _ HK.out
  · have q0 : y ≠ 0 := fun e => p (.inl e)
    have q1 : anyTo f n = true := by cases e : anyTo f n with | true => rfl | false => exact absurd (.inr e) p
    obtain ⟨bv, hcb, ⟨v', hsb, bv'⟩, her⟩ := HH.out.b q0 q1
    have gcb := (HC.out cb 0 (.inr (by omega))).trans hcb
    have gsb := (HC.out sb 0 (.inr (by omega))).trans hsb
    have lb : ∀ b x, w.cell? ⟨b, 0, none⟩ = some (.bool x) → ¬ b = L := fun b x hb e => by rw [e, HH.out.lags] at hb; cases hb
    have cv := bv.kx HK.out lb
    have cv' := bv'.kx HK.out lb
    have ce : IsBools w3 (.slice (some ⟨EX, 0, none⟩) n n) n f := ⟨HH.out.le, _, _, rfl, fun _ => ⟨EX, rfl, fun k hk => (HC.out EX k (.inl (fun e => HH.out.ne.2.2.2.2 e.symm))).trans (HH.out.exs k hk)⟩⟩
    obtain ⟨_, vq, vc, rfl, _⟩ := id cv
    obtain ⟨_, vq', vc', rfl, _⟩ := id cv'
    have HQ1 := hideIt q1
    rw [q1]
    have HER := hideIt her
    have HCV := hideIt (And.intro cv (And.intro cv' ce))
    clear p q1 bv bv' hcb hsb her lb cv cv' ce
    go_wp2_with fail
    refine (eq14 _ _ n f w3 HCV.out.2.1 HCV.out.2.2).mono ?_
    rintro e w4 ⟨rfl, b4⟩
    have k4 : Kx (fun _ => False) w3 w4 := Kx.of_below b4
    have d1 := HCV.out.1.kx k4 (fun _ _ _ h => h)
    have d2 := HCV.out.2.2.kx k4 (fun _ _ _ h => h)
    have H4 := hideIt (And.intro k4 (And.intro d1 d2))
    clear b4 k4 d1 d2
    go_wp2_with fail
    refine (eq14 _ _ n f w4 H4.out.2.1 H4.out.2.2).mono ?_
    rintro e w5 ⟨rfl, b5⟩
    have k5 : Kx (fun b => b = L) w w5 := (HK.out.trans H4.out.1 (fun _ _ h => h.elim)).trans (Kx.of_below (X := fun _ => False) b5) (fun _ _ h => h.elim)
    have ga : w5.cell? ⟨ab, 0, none⟩ = some (.bool ans) := by rw [k5.cell (World.block_lt_of_cell? w _ HH.out.an) (fun e => HH.out.ne.2.1 e.symm)]; exact HH.out.an
    have gx : w5.cell? ⟨xb, 2, none⟩ = some (.iface 81 (.pointer (some ⟨g, 0, none⟩))) := by rw [k5.cell (World.block_lt_of_cell? w _ HH.out.err) (fun e => HH.out.ne.1 e.symm)]; exact HH.out.err
    have HK5 := hideIt k5
    clear b5 k5
    have z := HR.out
    rw [HQ1.out] at z
    have HZ := hideIt z
    clear z
    have her := HER.out
    cases ans with
    | true =>
      simp only [if_true] at her
      subst her
      go_wp2_with fail
      exact HZ.out _ _ _ _ _ _ _ _ _ _ _ _ _ _ _ _ _ _ _ _ _ _ _ _ _ _ _ _ _ _ _ _ _ _ _ _ _ _ _ _ _ _ _ _ _ _ _ _ _ _ _ _ _ _ _ _ HK5.out
    | false =>
      simp only [Bool.false_eq_true, if_false] at her
      subst her
      go_wp2_with fail
      exact HZ.out _ _ _ _ _ _ _ _ _ _ _ _ _ _ _ _ _ _ _ _ _ _ _ _ _ _ _ _ _ _ _ _ _ _ _ _ _ _ _ _ _ _ _ _ _ _ _ _ _ _ _ _ _ _ _ _ HK5.out
end Go.Proofs.Ybulkasdy
