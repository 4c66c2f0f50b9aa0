/- The loops over a member's entries. -/
import Derived.Test.YbulkasdyCut
namespace Go.Proofs.Ybulkasdy
open Go.RowKit Go.Maps Go.MuLone

set_option maxHeartbeats 4000000 in
set_option maxRecDepth 1000000 in
theorem sentB (B SC SP eb eo N cap : Nat) (EK EN : Nat → Int) (w : World) (hN : N ≤ 256) (hEK : ∀ k, 0 ≤ EK k ∧ EK k ≤ 255) (hEN : ∀ k, -128 ≤ EN k ∧ EN k ≤ 127)
    (h0 : ∀ k, k < N → w.cell? ⟨eb, eo + k * 2, none⟩ = some (.int .u8 (EK k))) (h1 : ∀ k, k < N → w.cell? ⟨eb, eo + k * 2 + 1, none⟩ = some (.int .i8 (EN k)))
    (hc : CntAt w B SC SP 0 EK EN) (nb : eb ≠ B ∧ eb ≠ SC ∧ eb ≠ SP) (K : Act → World → Prop) (Q : Exit → Act → World → Prop)
    (s0 s1 s2 s3 s4 s5 s6 s7 s8 s9 s10 s11 s12 s13 s14 s15 s16 s18 s20 s22 s23 s24 s25 s26 s27 s28 s29 s30 s31 s32 s33 s34 s35 s36 s37 s38 s39 s40 s41 s42 s43 s44 s45 s46 s47 s48 s49 s50 s51 s52 s53 s54 s55 s56 s57 s58 s59 s60 s61 s62 s63 s64 s65 s66 s67 s68 s69 s70 s71 s72 s73 s74 s75 s76 s77 s78 s79 s80 s81 s82 s83 s84 s85 s86 s87 s88 s89 s90 s91 s92 s93 s94 s95 s96 s100 s101 s102 s103 s104 s105 s106 s107 s108 s109 s110 s111 s112 s113 s114 s115 s116 s117 s118 s119 s120 s121 s122 s123 s124 s125 s126 s127 s128 s129 s130 s131 s132 s133 s134 s135 s136 s137 s138 s139 s140 s141 s142 s143 s144 s145 s146 s147 s148 s149 s150 s151 s152 s153 s154 s155 s156 s157 s158 s159 s160 s161 s162 s163 s164 s165 s166 s167 s168 s169 s170 s171 s172 s173 s174 s175 s176 s177 s178 s179 s180 s181 s182 s183 s184 s185 s186 s187 s188 s189 s190 s191 s192 s193 s194 s195 s196 s197 s198 s199 s200 s201 s202 s203 s204 s205 s206 s207 s208 s209 s210 s211 s212 s213 s214 s215 s216 s217 s218 s219 s220 s221 s222 s223 s224 s225 s226 s227 s228 s229 s230 s231 s232 s233 s234 s235 s236 s237 s238 s239 s240 s241 s242 s243 s244 s245 s246 s247 s248 s249 s250 s251 s252 s253 s254 s255 s256 s257 s258 s259 s260 s261 s262 s263 s264 s265 s266 s267 s268 s269 s270 s271 s272 s273 s274 s275 s276 s277 s278 s279 s280 s281 s282 s283 s284 s285 s286 s287 s288 s289 s290 s291 s292 s293 s294 s295 s296 s297 s298 s299 s300 s301 s302 s303 s304 s305 : Value)
    (hK : ∀ (x24 x25 x100 x101 x102 x103 x104 x105 x106 x107 x108 x109 x110 x111 x112 x113 x114 x115 x116 x117 x118 x119 x120 x121 : Value) (w' : World), CntAt w' B SC SP N EK EN → Kx (fun b => b = B ∨ b = SC ∨ b = SP) w w' → K ⟨#[s0, s1, s2, s3, s4, s5, s6, s7, s8, s9, s10, s11, s12, s13, s14, s15, s16, .pointer (some ⟨SC, 0, none⟩), s18, .pointer (some ⟨SP, 0, none⟩), s20, .map (some B), s22, s23, x24, x25, s26, s27, s28, s29, s30, s31, s32, s33, s34, s35, s36, s37, s38, s39, s40, s41, s42, s43, s44, s45, s46, s47, s48, s49, s50, s51, s52, s53, s54, s55, s56, s57, s58, s59, s60, s61, s62, s63, s64, s65, s66, s67, s68, s69, s70, s71, s72, s73, s74, s75, s76, s77, s78, s79, s80, s81, s82, s83, s84, s85, s86, s87, s88, s89, s90, s91, s92, s93, s94, s95, s96, .slice (some ⟨eb, eo, none⟩) N cap, .int .i64 N, .int .i64 N, x100, x101, x102, x103, x104, x105, x106, x107, x108, x109, x110, x111, x112, x113, x114, x115, x116, x117, x118, x119, x120, x121, s122, s123, s124, s125, s126, s127, s128, s129, s130, s131, s132, s133, s134, s135, s136, s137, s138, s139, s140, s141, s142, s143, s144, s145, s146, s147, s148, s149, s150, s151, s152, s153, s154, s155, s156, s157, s158, s159, s160, s161, s162, s163, s164, s165, s166, s167, s168, s169, s170, s171, s172, s173, s174, s175, s176, s177, s178, s179, s180, s181, s182, s183, s184, s185, s186, s187, s188, s189, s190, s191, s192, s193, s194, s195, s196, s197, s198, s199, s200, s201, s202, s203, s204, s205, s206, s207, s208, s209, s210, s211, s212, s213, s214, s215, s216, s217, s218, s219, s220, s221, s222, s223, s224, s225, s226, s227, s228, s229, s230, s231, s232, s233, s234, s235, s236, s237, s238, s239, s240, s241, s242, s243, s244, s245, s246, s247, s248, s249, s250, s251, s252, s253, s254, s255, s256, s257, s258, s259, s260, s261, s262, s263, s264, s265, s266, s267, s268, s269, s270, s271, s272, s273, s274, s275, s276, s277, s278, s279, s280, s281, s282, s283, s284, s285, s286, s287, s288, s289, s290, s291, s292, s293, s294, s295, s296, s297, s298, s299, s300, s301, s302, s303, s304, s305], []⟩ w') :
    Code.wp Yba.prog blk4 (Exit.inBlock 4 (Exit.then K Q)) ⟨#[s0, s1, s2, s3, s4, s5, s6, s7, s8, s9, s10, s11, s12, s13, s14, s15, s16, .pointer (some ⟨SC, 0, none⟩), s18, .pointer (some ⟨SP, 0, none⟩), s20, .map (some B), s22, s23, s24, s25, s26, s27, s28, s29, s30, s31, s32, s33, s34, s35, s36, s37, s38, s39, s40, s41, s42, s43, s44, s45, s46, s47, s48, s49, s50, s51, s52, s53, s54, s55, s56, s57, s58, s59, s60, s61, s62, s63, s64, s65, s66, s67, s68, s69, s70, s71, s72, s73, s74, s75, s76, s77, s78, s79, s80, s81, s82, s83, s84, s85, s86, s87, s88, s89, s90, s91, s92, s93, s94, s95, s96, .slice (some ⟨eb, eo, none⟩) N cap, .int .i64 N, .int .i64 0, s100, s101, s102, s103, s104, s105, s106, s107, s108, s109, s110, s111, s112, s113, s114, s115, s116, s117, s118, s119, s120, s121, s122, s123, s124, s125, s126, s127, s128, s129, s130, s131, s132, s133, s134, s135, s136, s137, s138, s139, s140, s141, s142, s143, s144, s145, s146, s147, s148, s149, s150, s151, s152, s153, s154, s155, s156, s157, s158, s159, s160, s161, s162, s163, s164, s165, s166, s167, s168, s169, s170, s171, s172, s173, s174, s175, s176, s177, s178, s179, s180, s181, s182, s183, s184, s185, s186, s187, s188, s189, s190, s191, s192, s193, s194, s195, s196, s197, s198, s199, s200, s201, s202, s203, s204, s205, s206, s207, s208, s209, s210, s211, s212, s213, s214, s215, s216, s217, s218, s219, s220, s221, s222, s223, s224, s225, s226, s227, s228, s229, s230, s231, s232, s233, s234, s235, s236, s237, s238, s239, s240, s241, s242, s243, s244, s245, s246, s247, s248, s249, s250, s251, s252, s253, s254, s255, s256, s257, s258, s259, s260, s261, s262, s263, s264, s265, s266, s267, s268, s269, s270, s271, s272, s273, s274, s275, s276, s277, s278, s279, s280, s281, s282, s283, s284, s285, s286, s287, s288, s289, s290, s291, s292, s293, s294, s295, s296, s297, s298, s299, s300, s301, s302, s303, s304, s305], []⟩ w := by
  conv => arg 2; whnf
  go_wp2_with fail
  go_loopw [99] (fun i wr => ∃ k : Nat, k ≤ N ∧ i = .int .i64 k ∧ CntAt wr B SC SP k EK EN ∧ Kx (fun b => b = B ∨ b = SC ∨ b = SP) w wr) (fun i _ => N - (intOf i).toNat)
  case atStart => exact ⟨0, Nat.zero_le _, rfl, hc, Kx.refl _ _⟩
  case round =>
    obtain ⟨k, hk, rfl, hcn, hkx⟩ := hrel
    by_cases hlt : k < N
    · have nbX : ¬ (eb = B ∨ eb = SC ∨ eb = SP) := fun h => h.elim nb.1 (fun h => h.elim nb.2.1 nb.2.2)
      have g0 : wr.cell? ⟨eb, eo + k * 2, none⟩ = some (.int .u8 (EK k)) := by rw [hkx.cell (World.block_lt_of_cell? w _ (h0 k hlt)) nbX]; exact h0 k hlt
      have g1 : wr.cell? ⟨eb, eo + k * 2 + 1, none⟩ = some (.int .i8 (EN k)) := by rw [hkx.cell (World.block_lt_of_cell? w _ (h1 k hlt)) nbX]; exact h1 k hlt
      have b0 := hEK k
      have b1 := hEN k
      have HCN := hideIt hcn
      have HKX := hideIt hkx
      have HK := hideIt hK
      clear hcn hkx h0 h1 hc hK hEK hEN nb
      go_wp2_with fail
      obtain ⟨we, hwe⟩ : ∃ we, we = (wr.alloc (.cells #[.int .u8 (EK k), .int .i8 (EN k)] 52)).drew := ⟨_, rfl⟩
      obtain ⟨j, hj⟩ : ∃ j : Nat, EK k % 4 = (j : Int) := ⟨(EK k % 4).toNat, by omega⟩
      have hj4 : j < 4 := by omega
      have hjt : (EK k % 4).toNat = j := by omega
      have hS : we.cell? ⟨wr.heap.size, 1, none⟩ = some (.int .i8 (EN k)) := by rw [hwe]; exact World.cell?_alloc_mark ..
      have kwe : Kx (fun b => b = B ∨ b = SC ∨ b = SP) w we := by rw [hwe]; exact (HKX.out.alloc _).drew
      have blk : ∀ b, b < wr.heap.size → we.heap[b]? = wr.heap[b]? := fun b hb => by rw [hwe]; exact Below.heap_alloc _ _ _ hb
      have lB : B < wr.heap.size := HCN.out.map.lt
      have lSC : SC < wr.heap.size := World.block_lt_of_cell? wr _ (HCN.out.sc 0 (by omega))
      have lSP : SP < wr.heap.size := World.block_lt_of_cell? wr _ (HCN.out.sp 0 (by omega))
      have hle : we.heap.size = wr.heap.size + 1 := by rw [hwe]; exact World.size_alloc ..
      obtain ⟨wm, hrun, hmap, hgr⟩ := (HCN.out.map.of_block (blk B lB)).put j (by omega) (EN k) (WalkArith.wf_i64 (by omega)) (by omega)
      have hwu : IntKind.u8.wrap (j : Int) = (j : Int) := by rw [IntKind.wrap_u8]; omega
      have hwi : IntKind.i64.wrap (EN k) = EN k := by rw [IntKind.wrap_i64]; omega
      refine wp_still ?_
      refine wp_region_held (S := fun W => W.cell? ⟨wr.heap.size, 1, none⟩ = some (.int .i8 (EN k))) (by kernel_rfl) ?_
      change wpAnyH _ _ _ _ _ _ _ _ (wr.alloc (.cells #[.int .u8 (EK k), .int .i8 (EN k)] 52)).drew
      rw [← hwe]
      have HWE := hideIt hwe
      clear hwe
      refine takeV 0 107 (.map (some B)) rfl rfl (by kernel_rfl) (by kernel_rfl) (by kernel_rfl) (fun _ _ _ h => h) (by kernel_rfl) (by intro W _; go_simp) hS ?_
      refine takeV 1 108 (.int .i64 (EK k % 4)) rfl rfl (by kernel_rfl) (by kernel_rfl) (by kernel_rfl) (fun _ _ _ h => h) (by kernel_rfl) (by intro W _; go_simp) hS ?_
      refine takeV 2 109 (.int .u8 (EK k % 4)) rfl rfl (by kernel_rfl) (by kernel_rfl) (by kernel_rfl) (fun _ _ _ h => h) (by kernel_rfl) (by intro W _; go_simp) hS ?_
      refine takeV 4 111 (.pointer (some ⟨wr.heap.size, 1, none⟩)) rfl rfl (by kernel_rfl) (by kernel_rfl) (by kernel_rfl) (fun _ _ _ h => h) (by kernel_rfl) (by intro W _; go_simp) hS ?_
      refine takeV 5 112 (.int .i8 (EN k)) rfl rfl (by kernel_rfl) (by kernel_rfl) (by kernel_rfl) (fun _ _ _ h => h) (by kernel_rfl) (by intro W hW; go_simp) hS ?_
      refine takeV 6 113 (.int .i64 (EN k)) rfl rfl (by kernel_rfl) (by kernel_rfl) (by kernel_rfl) (fun _ _ _ h => h) (by kernel_rfl) (by intro W _; go_simp) hS ?_
      rw [show (Act.put _ _ _ : Act) = { tmps := #[s0, s1, s2, s3, s4, s5, s6, s7, s8, s9, s10, s11, s12, s13, s14, s15, s16, .pointer (some ⟨SC, 0, none⟩), s18, .pointer (some ⟨SP, 0, none⟩), s20, .map (some B), s22, s23, .pointer (some ⟨wr.heap.size, 0, none⟩), .int .i64 (EK k % 4), s26, s27, s28, s29, s30, s31, s32, s33, s34, s35, s36, s37, s38, s39, s40, s41, s42, s43, s44, s45, s46, s47, s48, s49, s50, s51, s52, s53, s54, s55, s56, s57, s58, s59, s60, s61, s62, s63, s64, s65, s66, s67, s68, s69, s70, s71, s72, s73, s74, s75, s76, s77, s78, s79, s80, s81, s82, s83, s84, s85, s86, s87, s88, s89, s90, s91, s92, s93, s94, s95, s96, .slice (some ⟨eb, eo, none⟩) N cap, .int .i64 N, .int .i64 k, .bool true, .pointer (some ⟨eb, eo + k * 2, none⟩), .agg #[.int .u8 (EK k), .int .i8 (EN k)], .pointer (some ⟨wr.heap.size, 0, none⟩), .int .u8 (EK k), .int .u8 (EK k % 4), .int .i64 (EK k % 4), .map (some B), .int .i64 (EK k % 4), .int .u8 (EK k % 4), u110, .pointer (some ⟨wr.heap.size, 1, none⟩), .int .i8 (EN k), .int .i64 (EN k), u114, u115, u116, u117, u118, u119, u120, u121, s122, s123, s124, s125, s126, s127, s128, s129, s130, s131, s132, s133, s134, s135, s136, s137, s138, s139, s140, s141, s142, s143, s144, s145, s146, s147, s148, s149, s150, s151, s152, s153, s154, s155, s156, s157, s158, s159, s160, s161, s162, s163, s164, s165, s166, s167, s168, s169, s170, s171, s172, s173, s174, s175, s176, s177, s178, s179, s180, s181, s182, s183, s184, s185, s186, s187, s188, s189, s190, s191, s192, s193, s194, s195, s196, s197, s198, s199, s200, s201, s202, s203, s204, s205, s206, s207, s208, s209, s210, s211, s212, s213, s214, s215, s216, s217, s218, s219, s220, s221, s222, s223, s224, s225, s226, s227, s228, s229, s230, s231, s232, s233, s234, s235, s236, s237, s238, s239, s240, s241, s242, s243, s244, s245, s246, s247, s248, s249, s250, s251, s252, s253, s254, s255, s256, s257, s258, s259, s260, s261, s262, s263, s264, s265, s266, s267, s268, s269, s270, s271, s272, s273, s274, s275, s276, s277, s278, s279, s280, s281, s282, s283, s284, s285, s286, s287, s288, s289, s290, s291, s292, s293, s294, s295, s296, s297, s298, s299, s300, s301, s302, s303, s304, s305], defers := [] } from by kernel_rfl]
      refine allCall 3 (some 110) 6 #[.int .u8 (EK k % 4)] rfl rfl (by kernel_rfl) (by kernel_rfl) (by go_simp) ?_
      refine (tbl_any (EK k % 4) (by omega) (by omega) we).mono ?_
      rintro e we' ⟨rfl, hwe'⟩
      subst hwe'
      refine ⟨_, rfl, hS, ?_⟩
      have hSm : wm.cell? ⟨wr.heap.size, 1, none⟩ = some (.int .i8 (EN k)) := by
        rw [World.cell?_of_block (a := ⟨wr.heap.size, 1, none⟩) (hgr.block wr.heap.size (by omega) (by simp; omega))]; exact hS
      refine allSkip 7 none wm rfl rfl (by kernel_rfl) (by kernel_rfl) (by simp only [hj]; go_simp) hSm ?_
      refine wpAnyH_done (by kernel_rfl) ?_ _
      simp only [hj]
      have hbm : ∀ b, b < wr.heap.size → b ≠ B → wm.heap[b]? = wr.heap[b]? := fun b hb hne => (hgr.block b (by omega) (by simp; exact hne)).trans (blk b hb)
      have ne := HCN.out.ne
      have hcSC : ∀ i, i < 4 → wm.cell? ⟨SC, i, none⟩ = some (.int .i64 (cntTo EK EN k i)) := fun i hi => (World.cell?_of_block (a := ⟨SC, i, none⟩) (hbm SC lSC (fun e => ne.1 e.symm))).trans (HCN.out.sc i hi)
      have hcSP : ∀ i, i < 4 → wm.cell? ⟨SP, i, none⟩ = some (.bool (prsTo EK k i)) := fun i hi => (World.cell?_of_block (a := ⟨SP, i, none⟩) (hbm SP lSP (fun e => ne.2.1 e.symm))).trans (HCN.out.sp i hi)
      have hfSC : ∀ i, wm.frozen? ⟨SC, i, none⟩ = false := fun i => (World.frozen?_of_block (a := ⟨SC, i, none⟩) (hbm SC lSC (fun e => ne.1 e.symm))).trans (HCN.out.fsc i)
      have hfSP : ∀ i, wm.frozen? ⟨SP, i, none⟩ = false := fun i => (World.frozen?_of_block (a := ⟨SP, i, none⟩) (hbm SP lSP (fun e => ne.2.1 e.symm))).trans (HCN.out.fsp i)
      have kwm : Kx (fun b => b = B ∨ b = SC ∨ b = SP) w wm := kwe.grown hgr (fun b e _ => by simp only [Option.some.injEq] at e; exact .inl e.symm)
      have a1 := hcSC j hj4
      have a2 := hfSC j
      have a3 := hcSP j hj4
      have a4 := hfSP j
      have HH := hideIt (And.intro hcSC (And.intro hcSP (And.intro hfSC (And.intro hfSP (And.intro kwm hmap)))))
      clear hcSC hcSP hfSC hfSP kwm hmap hbm hrun hgr blk kwe
      go_wp2_with fail
      obtain ⟨p1, p2, p3, p4, p5, p6⟩ := HH.out
      exact ⟨⟨k + 1, by omega, by go_num, CntAt.step hjt hj4 ne p1 p2 p3 p4 p6, (p5.setCell ⟨SC, j, none⟩ _ (fun _ => .inr (.inl rfl))).setCell ⟨SP, j, none⟩ _ (fun _ => .inr (.inr rfl))⟩, by simp [intOf]; omega⟩
    · obtain rfl : k = N := by omega
      have HCN := hideIt hcn
      have HKX := hideIt hkx
      clear hcn hkx h0 h1 hc hEK hEN nb
      go_wp2_with fail
      exact hK _ _ _ _ _ _ _ _ _ _ _ _ _ _ _ _ _ _ _ _ _ _ _ _ _ HCN.out HKX.out
set_option maxHeartbeats 4000000 in
set_option maxRecDepth 1000000 in
theorem waitB (B SC SP eb eo N cap : Nat) (EK EN : Nat → Int) (w : World) (hN : N ≤ 256) (hEK : ∀ k, 0 ≤ EK k ∧ EK k ≤ 255) (hEN : ∀ k, -128 ≤ EN k ∧ EN k ≤ 127)
    (h0 : ∀ k, k < N → w.cell? ⟨eb, eo + k * 2, none⟩ = some (.int .u8 (EK k))) (h1 : ∀ k, k < N → w.cell? ⟨eb, eo + k * 2 + 1, none⟩ = some (.int .i8 (EN k)))
    (hc : CntAt w B SC SP 0 EK EN) (nb : eb ≠ B ∧ eb ≠ SC ∧ eb ≠ SP) (K : Act → World → Prop) (Q : Exit → Act → World → Prop)
    (s0 s1 s2 s3 s4 s5 s6 s7 s8 s9 s10 s11 s12 s13 s14 s15 s16 s17 s19 s21 s23 s24 s25 s26 s27 s28 s29 s30 s31 s32 s33 s34 s35 s36 s37 s38 s39 s40 s41 s42 s43 s44 s45 s46 s47 s48 s49 s50 s51 s52 s53 s54 s55 s56 s57 s58 s59 s60 s61 s62 s63 s64 s65 s66 s67 s68 s69 s70 s71 s72 s73 s74 s75 s76 s77 s78 s79 s80 s81 s82 s83 s84 s85 s86 s87 s88 s89 s90 s91 s92 s93 s94 s95 s96 s97 s98 s99 s100 s101 s102 s103 s104 s105 s106 s107 s108 s109 s110 s111 s112 s113 s114 s115 s116 s117 s118 s119 s120 s121 s122 s126 s127 s128 s129 s130 s131 s132 s133 s134 s135 s136 s137 s138 s139 s140 s141 s142 s143 s144 s145 s146 s147 s148 s149 s150 s151 s152 s153 s154 s155 s156 s157 s158 s159 s160 s161 s162 s163 s164 s165 s166 s167 s168 s169 s170 s171 s172 s173 s174 s175 s176 s177 s178 s179 s180 s181 s182 s183 s184 s185 s186 s187 s188 s189 s190 s191 s192 s193 s194 s195 s196 s197 s198 s199 s200 s201 s202 s203 s204 s205 s206 s207 s208 s209 s210 s211 s212 s213 s214 s215 s216 s217 s218 s219 s220 s221 s222 s223 s224 s225 s226 s227 s228 s229 s230 s231 s232 s233 s234 s235 s236 s237 s238 s239 s240 s241 s242 s243 s244 s245 s246 s247 s248 s249 s250 s251 s252 s253 s254 s255 s256 s257 s258 s259 s260 s261 s262 s263 s264 s265 s266 s267 s268 s269 s270 s271 s272 s273 s274 s275 s276 s277 s278 s279 s280 s281 s282 s283 s284 s285 s286 s287 s288 s289 s290 s291 s292 s293 s294 s295 s296 s297 s298 s299 s300 s301 s302 s303 s304 s305 : Value)
    (hK : ∀ (x27 x28 x126 x127 x128 x129 x130 x131 x132 x133 x134 x135 x136 x137 x138 x139 x140 x141 x142 x143 x144 x145 x146 x147 : Value) (w' : World), CntAt w' B SC SP N EK EN → Kx (fun b => b = B ∨ b = SC ∨ b = SP) w w' → K ⟨#[s0, s1, s2, s3, s4, s5, s6, s7, s8, s9, s10, s11, s12, s13, s14, s15, s16, s17, .pointer (some ⟨SC, 0, none⟩), s19, .pointer (some ⟨SP, 0, none⟩), s21, .map (some B), s23, s24, s25, s26, x27, x28, s29, s30, s31, s32, s33, s34, s35, s36, s37, s38, s39, s40, s41, s42, s43, s44, s45, s46, s47, s48, s49, s50, s51, s52, s53, s54, s55, s56, s57, s58, s59, s60, s61, s62, s63, s64, s65, s66, s67, s68, s69, s70, s71, s72, s73, s74, s75, s76, s77, s78, s79, s80, s81, s82, s83, s84, s85, s86, s87, s88, s89, s90, s91, s92, s93, s94, s95, s96, s97, s98, s99, s100, s101, s102, s103, s104, s105, s106, s107, s108, s109, s110, s111, s112, s113, s114, s115, s116, s117, s118, s119, s120, s121, s122, .slice (some ⟨eb, eo, none⟩) N cap, .int .i64 N, .int .i64 N, x126, x127, x128, x129, x130, x131, x132, x133, x134, x135, x136, x137, x138, x139, x140, x141, x142, x143, x144, x145, x146, x147, s148, s149, s150, s151, s152, s153, s154, s155, s156, s157, s158, s159, s160, s161, s162, s163, s164, s165, s166, s167, s168, s169, s170, s171, s172, s173, s174, s175, s176, s177, s178, s179, s180, s181, s182, s183, s184, s185, s186, s187, s188, s189, s190, s191, s192, s193, s194, s195, s196, s197, s198, s199, s200, s201, s202, s203, s204, s205, s206, s207, s208, s209, s210, s211, s212, s213, s214, s215, s216, s217, s218, s219, s220, s221, s222, s223, s224, s225, s226, s227, s228, s229, s230, s231, s232, s233, s234, s235, s236, s237, s238, s239, s240, s241, s242, s243, s244, s245, s246, s247, s248, s249, s250, s251, s252, s253, s254, s255, s256, s257, s258, s259, s260, s261, s262, s263, s264, s265, s266, s267, s268, s269, s270, s271, s272, s273, s274, s275, s276, s277, s278, s279, s280, s281, s282, s283, s284, s285, s286, s287, s288, s289, s290, s291, s292, s293, s294, s295, s296, s297, s298, s299, s300, s301, s302, s303, s304, s305], []⟩ w') :
    Code.wp Yba.prog blk6 (Exit.inBlock 6 (Exit.then K Q)) ⟨#[s0, s1, s2, s3, s4, s5, s6, s7, s8, s9, s10, s11, s12, s13, s14, s15, s16, s17, .pointer (some ⟨SC, 0, none⟩), s19, .pointer (some ⟨SP, 0, none⟩), s21, .map (some B), s23, s24, s25, s26, s27, s28, s29, s30, s31, s32, s33, s34, s35, s36, s37, s38, s39, s40, s41, s42, s43, s44, s45, s46, s47, s48, s49, s50, s51, s52, s53, s54, s55, s56, s57, s58, s59, s60, s61, s62, s63, s64, s65, s66, s67, s68, s69, s70, s71, s72, s73, s74, s75, s76, s77, s78, s79, s80, s81, s82, s83, s84, s85, s86, s87, s88, s89, s90, s91, s92, s93, s94, s95, s96, s97, s98, s99, s100, s101, s102, s103, s104, s105, s106, s107, s108, s109, s110, s111, s112, s113, s114, s115, s116, s117, s118, s119, s120, s121, s122, .slice (some ⟨eb, eo, none⟩) N cap, .int .i64 N, .int .i64 0, s126, s127, s128, s129, s130, s131, s132, s133, s134, s135, s136, s137, s138, s139, s140, s141, s142, s143, s144, s145, s146, s147, s148, s149, s150, s151, s152, s153, s154, s155, s156, s157, s158, s159, s160, s161, s162, s163, s164, s165, s166, s167, s168, s169, s170, s171, s172, s173, s174, s175, s176, s177, s178, s179, s180, s181, s182, s183, s184, s185, s186, s187, s188, s189, s190, s191, s192, s193, s194, s195, s196, s197, s198, s199, s200, s201, s202, s203, s204, s205, s206, s207, s208, s209, s210, s211, s212, s213, s214, s215, s216, s217, s218, s219, s220, s221, s222, s223, s224, s225, s226, s227, s228, s229, s230, s231, s232, s233, s234, s235, s236, s237, s238, s239, s240, s241, s242, s243, s244, s245, s246, s247, s248, s249, s250, s251, s252, s253, s254, s255, s256, s257, s258, s259, s260, s261, s262, s263, s264, s265, s266, s267, s268, s269, s270, s271, s272, s273, s274, s275, s276, s277, s278, s279, s280, s281, s282, s283, s284, s285, s286, s287, s288, s289, s290, s291, s292, s293, s294, s295, s296, s297, s298, s299, s300, s301, s302, s303, s304, s305], []⟩ w := by
  conv => arg 2; whnf
  go_wp2_with fail
  go_loopw [125] (fun i wr => ∃ k : Nat, k ≤ N ∧ i = .int .i64 k ∧ CntAt wr B SC SP k EK EN ∧ Kx (fun b => b = B ∨ b = SC ∨ b = SP) w wr) (fun i _ => N - (intOf i).toNat)
  case atStart => exact ⟨0, Nat.zero_le _, rfl, hc, Kx.refl _ _⟩
  case round =>
    obtain ⟨k, hk, rfl, hcn, hkx⟩ := hrel
    by_cases hlt : k < N
    · have nbX : ¬ (eb = B ∨ eb = SC ∨ eb = SP) := fun h => h.elim nb.1 (fun h => h.elim nb.2.1 nb.2.2)
      have g0 : wr.cell? ⟨eb, eo + k * 2, none⟩ = some (.int .u8 (EK k)) := by rw [hkx.cell (World.block_lt_of_cell? w _ (h0 k hlt)) nbX]; exact h0 k hlt
      have g1 : wr.cell? ⟨eb, eo + k * 2 + 1, none⟩ = some (.int .i8 (EN k)) := by rw [hkx.cell (World.block_lt_of_cell? w _ (h1 k hlt)) nbX]; exact h1 k hlt
      have b0 := hEK k
      have b1 := hEN k
      have HCN := hideIt hcn
      have HKX := hideIt hkx
      have HK := hideIt hK
      clear hcn hkx h0 h1 hc hK hEK hEN nb
      go_wp2_with fail
      obtain ⟨we, hwe⟩ : ∃ we, we = (wr.alloc (.cells #[.int .u8 (EK k), .int .i8 (EN k)] 52)).drew := ⟨_, rfl⟩
      obtain ⟨j, hj⟩ : ∃ j : Nat, EK k % 4 = (j : Int) := ⟨(EK k % 4).toNat, by omega⟩
      have hj4 : j < 4 := by omega
      have hjt : (EK k % 4).toNat = j := by omega
      have hS : we.cell? ⟨wr.heap.size, 1, none⟩ = some (.int .i8 (EN k)) := by rw [hwe]; exact World.cell?_alloc_mark ..
      have kwe : Kx (fun b => b = B ∨ b = SC ∨ b = SP) w we := by rw [hwe]; exact (HKX.out.alloc _).drew
      have blk : ∀ b, b < wr.heap.size → we.heap[b]? = wr.heap[b]? := fun b hb => by rw [hwe]; exact Below.heap_alloc _ _ _ hb
      have lB : B < wr.heap.size := HCN.out.map.lt
      have lSC : SC < wr.heap.size := World.block_lt_of_cell? wr _ (HCN.out.sc 0 (by omega))
      have lSP : SP < wr.heap.size := World.block_lt_of_cell? wr _ (HCN.out.sp 0 (by omega))
      have hle : we.heap.size = wr.heap.size + 1 := by rw [hwe]; exact World.size_alloc ..
      obtain ⟨wm, hrun, hmap, hgr⟩ := (HCN.out.map.of_block (blk B lB)).put j (by omega) (EN k) (WalkArith.wf_i64 (by omega)) (by omega)
      have hwu : IntKind.u8.wrap (j : Int) = (j : Int) := by rw [IntKind.wrap_u8]; omega
      have hwi : IntKind.i64.wrap (EN k) = EN k := by rw [IntKind.wrap_i64]; omega
      refine wp_still ?_
      refine wp_region_held (S := fun W => W.cell? ⟨wr.heap.size, 1, none⟩ = some (.int .i8 (EN k))) (by kernel_rfl) ?_
      change wpAnyH _ _ _ _ _ _ _ _ (wr.alloc (.cells #[.int .u8 (EK k), .int .i8 (EN k)] 52)).drew
      rw [← hwe]
      have HWE := hideIt hwe
      clear hwe
      refine takeV 0 133 (.map (some B)) rfl rfl (by kernel_rfl) (by kernel_rfl) (by kernel_rfl) (fun _ _ _ h => h) (by kernel_rfl) (by intro W _; go_simp) hS ?_
      refine takeV 1 134 (.int .i64 (EK k % 4)) rfl rfl (by kernel_rfl) (by kernel_rfl) (by kernel_rfl) (fun _ _ _ h => h) (by kernel_rfl) (by intro W _; go_simp) hS ?_
      refine takeV 2 135 (.int .u8 (EK k % 4)) rfl rfl (by kernel_rfl) (by kernel_rfl) (by kernel_rfl) (fun _ _ _ h => h) (by kernel_rfl) (by intro W _; go_simp) hS ?_
      refine takeV 4 137 (.pointer (some ⟨wr.heap.size, 1, none⟩)) rfl rfl (by kernel_rfl) (by kernel_rfl) (by kernel_rfl) (fun _ _ _ h => h) (by kernel_rfl) (by intro W _; go_simp) hS ?_
      refine takeV 5 138 (.int .i8 (EN k)) rfl rfl (by kernel_rfl) (by kernel_rfl) (by kernel_rfl) (fun _ _ _ h => h) (by kernel_rfl) (by intro W hW; go_simp) hS ?_
      refine takeV 6 139 (.int .i64 (EN k)) rfl rfl (by kernel_rfl) (by kernel_rfl) (by kernel_rfl) (fun _ _ _ h => h) (by kernel_rfl) (by intro W _; go_simp) hS ?_
      rw [show (Act.put _ _ _ : Act) = { tmps := #[s0, s1, s2, s3, s4, s5, s6, s7, s8, s9, s10, s11, s12, s13, s14, s15, s16, s17, .pointer (some ⟨SC, 0, none⟩), s19, .pointer (some ⟨SP, 0, none⟩), s21, .map (some B), s23, s24, s25, s26, .pointer (some ⟨wr.heap.size, 0, none⟩), .int .i64 (EK k % 4), s29, s30, s31, s32, s33, s34, s35, s36, s37, s38, s39, s40, s41, s42, s43, s44, s45, s46, s47, s48, s49, s50, s51, s52, s53, s54, s55, s56, s57, s58, s59, s60, s61, s62, s63, s64, s65, s66, s67, s68, s69, s70, s71, s72, s73, s74, s75, s76, s77, s78, s79, s80, s81, s82, s83, s84, s85, s86, s87, s88, s89, s90, s91, s92, s93, s94, s95, s96, s97, s98, s99, s100, s101, s102, s103, s104, s105, s106, s107, s108, s109, s110, s111, s112, s113, s114, s115, s116, s117, s118, s119, s120, s121, s122, .slice (some ⟨eb, eo, none⟩) N cap, .int .i64 N, .int .i64 k, .bool true, .pointer (some ⟨eb, eo + k * 2, none⟩), .agg #[.int .u8 (EK k), .int .i8 (EN k)], .pointer (some ⟨wr.heap.size, 0, none⟩), .int .u8 (EK k), .int .u8 (EK k % 4), .int .i64 (EK k % 4), .map (some B), .int .i64 (EK k % 4), .int .u8 (EK k % 4), u136, .pointer (some ⟨wr.heap.size, 1, none⟩), .int .i8 (EN k), .int .i64 (EN k), u140, u141, u142, u143, u144, u145, u146, u147, s148, s149, s150, s151, s152, s153, s154, s155, s156, s157, s158, s159, s160, s161, s162, s163, s164, s165, s166, s167, s168, s169, s170, s171, s172, s173, s174, s175, s176, s177, s178, s179, s180, s181, s182, s183, s184, s185, s186, s187, s188, s189, s190, s191, s192, s193, s194, s195, s196, s197, s198, s199, s200, s201, s202, s203, s204, s205, s206, s207, s208, s209, s210, s211, s212, s213, s214, s215, s216, s217, s218, s219, s220, s221, s222, s223, s224, s225, s226, s227, s228, s229, s230, s231, s232, s233, s234, s235, s236, s237, s238, s239, s240, s241, s242, s243, s244, s245, s246, s247, s248, s249, s250, s251, s252, s253, s254, s255, s256, s257, s258, s259, s260, s261, s262, s263, s264, s265, s266, s267, s268, s269, s270, s271, s272, s273, s274, s275, s276, s277, s278, s279, s280, s281, s282, s283, s284, s285, s286, s287, s288, s289, s290, s291, s292, s293, s294, s295, s296, s297, s298, s299, s300, s301, s302, s303, s304, s305], defers := [] } from by kernel_rfl]
      refine allCall 3 (some 136) 6 #[.int .u8 (EK k % 4)] rfl rfl (by kernel_rfl) (by kernel_rfl) (by go_simp) ?_
      refine (tbl_any (EK k % 4) (by omega) (by omega) we).mono ?_
      rintro e we' ⟨rfl, hwe'⟩
      subst hwe'
      refine ⟨_, rfl, hS, ?_⟩
      have hSm : wm.cell? ⟨wr.heap.size, 1, none⟩ = some (.int .i8 (EN k)) := by
        rw [World.cell?_of_block (a := ⟨wr.heap.size, 1, none⟩) (hgr.block wr.heap.size (by omega) (by simp; omega))]; exact hS
      refine allSkip 7 none wm rfl rfl (by kernel_rfl) (by kernel_rfl) (by simp only [hj]; go_simp) hSm ?_
      refine wpAnyH_done (by kernel_rfl) ?_ _
      simp only [hj]
      have hbm : ∀ b, b < wr.heap.size → b ≠ B → wm.heap[b]? = wr.heap[b]? := fun b hb hne => (hgr.block b (by omega) (by simp; exact hne)).trans (blk b hb)
      have ne := HCN.out.ne
      have hcSC : ∀ i, i < 4 → wm.cell? ⟨SC, i, none⟩ = some (.int .i64 (cntTo EK EN k i)) := fun i hi => (World.cell?_of_block (a := ⟨SC, i, none⟩) (hbm SC lSC (fun e => ne.1 e.symm))).trans (HCN.out.sc i hi)
      have hcSP : ∀ i, i < 4 → wm.cell? ⟨SP, i, none⟩ = some (.bool (prsTo EK k i)) := fun i hi => (World.cell?_of_block (a := ⟨SP, i, none⟩) (hbm SP lSP (fun e => ne.2.1 e.symm))).trans (HCN.out.sp i hi)
      have hfSC : ∀ i, wm.frozen? ⟨SC, i, none⟩ = false := fun i => (World.frozen?_of_block (a := ⟨SC, i, none⟩) (hbm SC lSC (fun e => ne.1 e.symm))).trans (HCN.out.fsc i)
      have hfSP : ∀ i, wm.frozen? ⟨SP, i, none⟩ = false := fun i => (World.frozen?_of_block (a := ⟨SP, i, none⟩) (hbm SP lSP (fun e => ne.2.1 e.symm))).trans (HCN.out.fsp i)
      have kwm : Kx (fun b => b = B ∨ b = SC ∨ b = SP) w wm := kwe.grown hgr (fun b e _ => by simp only [Option.some.injEq] at e; exact .inl e.symm)
      have a1 := hcSC j hj4
      have a2 := hfSC j
      have a3 := hcSP j hj4
      have a4 := hfSP j
      have HH := hideIt (And.intro hcSC (And.intro hcSP (And.intro hfSC (And.intro hfSP (And.intro kwm hmap)))))
      clear hcSC hcSP hfSC hfSP kwm hmap hbm hrun hgr blk kwe
      go_wp2_with fail
      obtain ⟨p1, p2, p3, p4, p5, p6⟩ := HH.out
      exact ⟨⟨k + 1, by omega, by go_num, CntAt.step hjt hj4 ne p1 p2 p3 p4 p6, (p5.setCell ⟨SC, j, none⟩ _ (fun _ => .inr (.inl rfl))).setCell ⟨SP, j, none⟩ _ (fun _ => .inr (.inr rfl))⟩, by simp [intOf]; omega⟩
    · obtain rfl : k = N := by omega
      have HCN := hideIt hcn
      have HKX := hideIt hkx
      clear hcn hkx h0 h1 hc hEK hEN nb
      go_wp2_with fail
      exact hK _ _ _ _ _ _ _ _ _ _ _ _ _ _ _ _ _ _ _ _ _ _ _ _ _ HCN.out HKX.out
end Go.Proofs.Ybulkasdy
