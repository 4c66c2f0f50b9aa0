/- A member's round. -/
import Derived.Test.YbulkasdyFin
namespace Go.Proofs.Ybulkasdy
open Go.RowKit Go.Maps Go.MuLone

theorem t55 (B : Nat) (x : Int) : Yba.prog.built 55 [(0, .map (some B)), (1, .int .i64 x)] = some #[.map (some B), .int .i64 x] := by kernel_rfl

theorem t57 (B C : Nat) (x y : Int) : Yba.prog.built 57 [(0, .agg #[.map (some B), .int .i64 x]), (1, .agg #[.map (some C), .int .i64 y])] = some #[.map (some B), .int .i64 x, .map (some C), .int .i64 y] := by kernel_rfl

/-- What region 37 reads. -/
def RS37 (L MB n A : Nat) (sf wf : Int) (W : World) : Prop := W.cell? ⟨L, 3, none⟩ = some (.slice (some ⟨MB, 0, none⟩) n n) ∧ W.cell? ⟨A, 0, none⟩ = some (.int .i8 sf) ∧ W.cell? ⟨A, 1, none⟩ = some (.int .i8 wf)

/-- What a member's round reads. -/
structure RoundAt (w : World) (mb mo kb ko nk L MB n EX i SN WN eb eo fb fo : Nat) (kq sq wq : Option Addr) (scap wcap : Nat) (sf wf : Int) (EK EN FK FN q : Nat → Int) : Prop where
  m0 : w.cell? ⟨mb, mo + i * 4, none⟩ = some (.int .i8 sf)
  m1 : w.cell? ⟨mb, mo + i * 4 + 1, none⟩ = some (.int .i8 wf)
  m2 : w.cell? ⟨mb, mo + i * 4 + 2, none⟩ = some (.slice sq SN scap)
  m3 : w.cell? ⟨mb, mo + i * 4 + 3, none⟩ = some (.slice wq WN wcap)
  sN : SN ≤ 256
  wN : WN ≤ 256
  kN : nk ≤ 256
  hsq : 0 < SN → sq = some ⟨eb, eo, none⟩
  hwq : 0 < WN → wq = some ⟨fb, fo, none⟩
  hkq : 0 < nk → kq = some ⟨kb, ko, none⟩
  eK : ∀ k, 0 ≤ EK k ∧ EK k ≤ 255
  eN : ∀ k, -128 ≤ EN k ∧ EN k ≤ 127
  fK : ∀ k, 0 ≤ FK k ∧ FK k ≤ 255
  fN : ∀ k, -128 ≤ FN k ∧ FN k ≤ 127
  bq : ∀ k, 0 ≤ q k ∧ q k ≤ 255
  e0 : ∀ k, k < SN → w.cell? ⟨eb, eo + k * 2, none⟩ = some (.int .u8 (EK k))
  e1 : ∀ k, k < SN → w.cell? ⟨eb, eo + k * 2 + 1, none⟩ = some (.int .i8 (EN k))
  f0 : ∀ k, k < WN → w.cell? ⟨fb, fo + k * 2, none⟩ = some (.int .u8 (FK k))
  f1 : ∀ k, k < WN → w.cell? ⟨fb, fo + k * 2 + 1, none⟩ = some (.int .i8 (FN k))
  k0 : ∀ k, k < nk → w.cell? ⟨kb, ko + k, none⟩ = some (.int .u8 (q k))
  bsf : -128 ≤ sf ∧ sf ≤ 127
  bwf : -128 ≤ wf ∧ wf ≤ 127
  mem : w.cell? ⟨L, 3, none⟩ = some (.slice (some ⟨MB, 0, none⟩) n n)
  row : ∃ cur : Array Value, w.heap[MB]? = some (.cells cur 57 (0, 0)) ∧ cur.size = n * 4
  erow : ∃ cur : Array Value, w.heap[EX]? = some (.cells cur 4 (0, 0)) ∧ cur.size = n
  ne : MB ≠ EX ∧ L ≠ MB ∧ L ≠ EX
  knb : 0 < nk → kb ≠ MB

set_option maxHeartbeats 8000000 in
set_option maxRecDepth 1000000 in
theorem roundB (mb mo kb ko nk kc L MB n mc EX i SN WN eb eo fb fo scap wcap : Nat) (kq sq wq : Option Addr) (flush al : Bool) (sf wf : Int) (EK EN FK FN q : Nat → Int) (w : World) (hn : n ≤ 256) (hi : i < n) (h : RoundAt w mb mo kb ko nk L MB n EX i SN WN eb eo fb fo kq sq wq scap wcap sf wf EK EN FK FN q)
    (K : Act → World → Prop) (Q : Exit → Act → World → Prop) (s1 s4 s5 s6 s7 s8 s9 s10 s11 s15 s16 s17 s18 s19 s20 s21 s22 s23 s24 s25 s26 s27 s28 s29 s30 s31 s32 s33 s34 s35 s36 s37 s38 s39 s40 s41 s42 s43 s44 s45 s46 s47 s48 s49 s50 s51 s52 s53 s54 s55 s56 s57 s58 s59 s60 s61 s62 s63 s64 s65 s66 s67 s68 s69 s70 s71 s72 s73 s74 s75 s76 s77 s78 s79 s80 s81 s82 s83 s84 s85 s88 s89 s90 s91 s92 s93 s94 s95 s96 s97 s98 s99 s100 s101 s102 s103 s104 s105 s106 s107 s108 s109 s110 s111 s112 s113 s114 s115 s116 s117 s118 s119 s120 s121 s122 s123 s124 s125 s126 s127 s128 s129 s130 s131 s132 s133 s134 s135 s136 s137 s138 s139 s140 s141 s142 s143 s144 s145 s146 s147 s148 s149 s150 s151 s152 s153 s154 s155 s156 s157 s158 s159 s160 s161 s162 s163 s164 s165 s166 s167 s168 s169 s170 s171 s172 s173 s174 s175 s176 s177 s178 s179 s180 s181 s182 s183 s184 s185 s186 s187 s188 s189 s190 s191 s192 s193 s194 s195 s196 s197 s198 s199 s200 s201 s202 s203 s204 s205 s206 s207 s208 s209 s210 s211 s212 s213 s214 s215 s216 s217 s218 s219 s220 s221 s222 s223 s224 s225 s226 s227 s228 s229 s230 s231 s232 s233 s234 s235 s236 s237 s238 s239 s240 s241 s242 s243 s244 s245 s246 s247 s248 s249 s250 s251 s252 s253 s254 s255 s256 s257 s258 s259 s260 s261 s262 s263 s264 s265 s266 s267 s268 s269 s270 s271 s272 s273 s274 s275 s276 s277 s278 s279 s280 s281 s282 s283 s284 s285 s286 s287 s288 s289 s290 s291 s292 s293 s294 s295 s296 s297 s298 s299 s300 s301 s302 s303 s304 s305 : Value)
    (hK : ∀ (x15 x16 x17 x18 x19 x20 x21 x22 x24 x25 x27 x28 x29 x30 x32 x33 x88 x89 x90 x91 x92 x93 x94 x95 x96 x97 x98 x99 x100 x101 x102 x103 x104 x105 x106 x107 x108 x109 x110 x111 x112 x113 x114 x115 x116 x117 x118 x119 x120 x121 x122 x123 x124 x125 x126 x127 x128 x129 x130 x131 x132 x133 x134 x135 x136 x137 x138 x139 x140 x141 x142 x143 x144 x145 x146 x147 x148 x149 x150 x151 x152 x153 x154 x155 x156 x157 x158 x159 x160 x161 x162 x163 x164 x165 x166 x167 x168 x169 x170 x171 x172 x173 x174 x175 x176 x177 x178 x179 x180 x181 x182 x183 x184 x185 x186 x187 x188 x189 x190 x191 x192 x193 x194 x195 x196 x197 x198 x199 x200 x201 x202 x203 x204 x205 x206 x207 x208 x209 x210 x211 x212 x213 x214 x215 : Value) (w' : World), RoundEnd w w' MB EX n i sf wf (cntTo EK EN SN) (cntTo FK FN WN) (prsTo EK SN) (prsTo FK WN) (lagR sf wf flush (cntTo EK EN SN) (cntTo FK FN WN) (prsTo EK SN) (prsTo FK WN) q nk) → K ⟨#[.slice (some ⟨mb, mo, none⟩) n mc, s1, .slice kq nk kc, .bool flush, s4, s5, s6, s7, s8, s9, s10, s11, .pointer (some ⟨L, 0, none⟩), .slice (some ⟨EX, 0, none⟩) n n, .bool (al || lagR sf wf flush (cntTo EK EN SN) (cntTo FK FN WN) (prsTo EK SN) (prsTo FK WN) q nk), x15, x16, x17, x18, x19, x20, x21, x22, s23, x24, x25, s26, x27, x28, x29, x30, s31, x32, x33, s34, s35, s36, s37, s38, s39, s40, s41, s42, s43, s44, s45, s46, s47, s48, s49, s50, s51, s52, s53, s54, s55, s56, s57, s58, s59, s60, s61, s62, s63, s64, s65, s66, s67, s68, s69, s70, s71, s72, s73, s74, s75, s76, s77, s78, s79, s80, s81, s82, s83, s84, s85, .int .i64 n, .int .i64 ((i : Int) + 1), x88, x89, x90, x91, x92, x93, x94, x95, x96, x97, x98, x99, x100, x101, x102, x103, x104, x105, x106, x107, x108, x109, x110, x111, x112, x113, x114, x115, x116, x117, x118, x119, x120, x121, x122, x123, x124, x125, x126, x127, x128, x129, x130, x131, x132, x133, x134, x135, x136, x137, x138, x139, x140, x141, x142, x143, x144, x145, x146, x147, x148, x149, x150, x151, x152, x153, x154, x155, x156, x157, x158, x159, x160, x161, x162, x163, x164, x165, x166, x167, x168, x169, x170, x171, x172, x173, x174, x175, x176, x177, x178, x179, x180, x181, x182, x183, x184, x185, x186, x187, x188, x189, x190, x191, x192, x193, x194, x195, x196, x197, x198, x199, x200, x201, x202, x203, x204, x205, x206, x207, x208, x209, x210, x211, x212, x213, x214, x215, s216, s217, s218, s219, s220, s221, s222, s223, s224, s225, s226, s227, s228, s229, s230, s231, s232, s233, s234, s235, s236, s237, s238, s239, s240, s241, s242, s243, s244, s245, s246, s247, s248, s249, s250, s251, s252, s253, s254, s255, s256, s257, s258, s259, s260, s261, s262, s263, s264, s265, s266, s267, s268, s269, s270, s271, s272, s273, s274, s275, s276, s277, s278, s279, s280, s281, s282, s283, s284, s285, s286, s287, s288, s289, s290, s291, s292, s293, s294, s295, s296, s297, s298, s299, s300, s301, s302, s303, s304, s305], []⟩ w') :
    Code.wp Yba.prog body2 (Exit.then K Q) ⟨#[.slice (some ⟨mb, mo, none⟩) n mc, s1, .slice kq nk kc, .bool flush, s4, s5, s6, s7, s8, s9, s10, s11, .pointer (some ⟨L, 0, none⟩), .slice (some ⟨EX, 0, none⟩) n n, .bool al, s15, s16, s17, s18, s19, s20, s21, s22, s23, s24, s25, s26, s27, s28, s29, s30, s31, s32, s33, s34, s35, s36, s37, s38, s39, s40, s41, s42, s43, s44, s45, s46, s47, s48, s49, s50, s51, s52, s53, s54, s55, s56, s57, s58, s59, s60, s61, s62, s63, s64, s65, s66, s67, s68, s69, s70, s71, s72, s73, s74, s75, s76, s77, s78, s79, s80, s81, s82, s83, s84, s85, .int .i64 n, .int .i64 i, s88, s89, s90, s91, s92, s93, s94, s95, s96, s97, s98, s99, s100, s101, s102, s103, s104, s105, s106, s107, s108, s109, s110, s111, s112, s113, s114, s115, s116, s117, s118, s119, s120, s121, s122, s123, s124, s125, s126, s127, s128, s129, s130, s131, s132, s133, s134, s135, s136, s137, s138, s139, s140, s141, s142, s143, s144, s145, s146, s147, s148, s149, s150, s151, s152, s153, s154, s155, s156, s157, s158, s159, s160, s161, s162, s163, s164, s165, s166, s167, s168, s169, s170, s171, s172, s173, s174, s175, s176, s177, s178, s179, s180, s181, s182, s183, s184, s185, s186, s187, s188, s189, s190, s191, s192, s193, s194, s195, s196, s197, s198, s199, s200, s201, s202, s203, s204, s205, s206, s207, s208, s209, s210, s211, s212, s213, s214, s215, s216, s217, s218, s219, s220, s221, s222, s223, s224, s225, s226, s227, s228, s229, s230, s231, s232, s233, s234, s235, s236, s237, s238, s239, s240, s241, s242, s243, s244, s245, s246, s247, s248, s249, s250, s251, s252, s253, s254, s255, s256, s257, s258, s259, s260, s261, s262, s263, s264, s265, s266, s267, s268, s269, s270, s271, s272, s273, s274, s275, s276, s277, s278, s279, s280, s281, s282, s283, s284, s285, s286, s287, s288, s289, s290, s291, s292, s293, s294, s295, s296, s297, s298, s299, s300, s301, s302, s303, s304, s305], []⟩ w := by
  have hmm := @run_makeMap Yba.prog
  have m0 := h.m0
  have bsf := h.bsf
  have bwf := h.bwf
  have m1 := h.m1
  have m2 := h.m2
  have m3 := h.m3
  have HH := hideIt h
  have HKK := hideIt hK
  clear h hK
  conv => arg 2; whnf
  go_wp2_with fail
  have lt : ∀ {a : Addr} {v : Value}, w.cell? a = some v → a.block < w.heap.size := fun h => World.block_lt_of_cell? w _ h
  have c7 : ∀ {a : Addr} {v : Value}, w.cell? a = some v → (w7 w #[.int .i8 sf, .int .i8 wf, .slice sq SN scap, .slice wq WN wcap]).cell? a = some v := fun h => by rw [(w7_kx w _).cell (lt h) (fun h => h)]; exact h
  refine sentA (w.heap.size + 5) (w.heap.size + 1) (w.heap.size + 3) eb eo SN scap sq EK EN (w7 w #[.int .i8 sf, .int .i8 wf, .slice sq SN scap, .slice wq WN wcap]) HH.out.sN HH.out.eK HH.out.eN HH.out.hsq (fun k hk => c7 (HH.out.e0 k hk)) (fun k hk => c7 (HH.out.e1 k hk))
    (cnt_start EK EN (w7_5 w _) (w7_1 w _) (w7_3 w _) (by omega)) (fun hp => by have := lt (HH.out.e0 0 hp); simp only at this; omega) _ _ _ _ _ _ _ _ _ _ _ _ _ _ _ _ _ _ _ _ _ _ _ _ _ _ _ _ _ _ _ _ _ _ _ _ _ _ _ _ _ _ _ _ _ _ _ _ _ _ _ _ _ _ _ _ _ _ _ _ _ _ _ _ _ _ _ _ _ _ _ _ _ _ _ _ _ _ _ _ _ _ _ _ _ _ _ _ _ _ _ _ _ _ _ _ _ _ _ _ _ _ _ _ _ _ _ _ _ _ _ _ _ _ _ _ _ _ _ _ _ _ _ _ _ _ _ _ _ _ _ _ _ _ _ _ _ _ _ _ _ _ _ _ _ _ _ _ _ _ _ _ _ _ _ _ _ _ _ _ _ _ _ _ _ _ _ _ _ _ _ _ _ _ _ _ _ _ _ _ _ _ _ _ _ _ _ _ _ _ _ _ _ _ _ _ _ _ _ _ _ _ _ _ _ _ _ _ _ _ _ _ _ _ _ _ _ _ _ _ _ _ _ _ _ _ _ _ _ _ _ _ _ _ _ _ _ _ _ _ _ _ _ _ _ _ _ _ _ _ _ _ _ _ _ _ _ _ _ _ _ _ _ _ _ _ _ _ _ _ _ _ _ _ _ _ _ _ _ _ _ _ _ _ _ _ _ _ _ _ _ _ _ _ _ _ _ _ _ _ _ _ ?_
  intro x24 x25 x100 x101 x102 x103 x104 x105 x106 x107 x108 x109 x110 x111 x112 x113 x114 x115 x116 x117 x118 x119 x120 x121 w2 hc2 hk2
  have hr2 : ∀ k, k ≠ 5 → k ≠ 1 → k ≠ 3 → k < 7 → w2.heap[w.heap.size + k]? = (w7 w #[.int .i8 sf, .int .i8 wf, .slice sq SN scap, .slice wq WN wcap]).heap[w.heap.size + k]? := fun k h1 h2 h3 h4 => hk2.block _ (by rw [w7_size]; omega) (by omega)
  have a3 : w2.cell? ⟨w.heap.size, 3, none⟩ = some (.slice wq WN wcap) := by rw [cell_of_row w2 w.heap.size 3 _ _ _ ((hr2 0 (by omega) (by omega) (by omega) (by omega)).trans (w7_0 w _))]; rfl
  have c2 : ∀ {a : Addr} {v : Value}, w.cell? a = some v → w2.cell? a = some v := fun h => by rw [hk2.cell (by rw [w7_size]; have := lt h; omega) (by have := lt h; omega)]; exact c7 h
  have HC2 := hideIt hc2
  have HK2 := hideIt hk2
  clear hc2 hk2 m0 m1 m2 m3
  go_wp2_with fail
  refine waitA (w.heap.size + 6) (w.heap.size + 2) (w.heap.size + 4) fb fo WN wcap wq FK FN w2 HH.out.wN HH.out.fK HH.out.fN HH.out.hwq (fun k hk => c2 (HH.out.f0 k hk)) (fun k hk => c2 (HH.out.f1 k hk))
    (cnt_start FK FN ((hr2 6 (by omega) (by omega) (by omega) (by omega)).trans (w7_6 w _)) ((hr2 2 (by omega) (by omega) (by omega) (by omega)).trans (w7_2 w _)) ((hr2 4 (by omega) (by omega) (by omega) (by omega)).trans (w7_4 w _)) (by omega)) (fun hp => by have := lt (HH.out.f0 0 hp); simp only at this; omega) _ _ _ _ _ _ _ _ _ _ _ _ _ _ _ _ _ _ _ _ _ _ _ _ _ _ _ _ _ _ _ _ _ _ _ _ _ _ _ _ _ _ _ _ _ _ _ _ _ _ _ _ _ _ _ _ _ _ _ _ _ _ _ _ _ _ _ _ _ _ _ _ _ _ _ _ _ _ _ _ _ _ _ _ _ _ _ _ _ _ _ _ _ _ _ _ _ _ _ _ _ _ _ _ _ _ _ _ _ _ _ _ _ _ _ _ _ _ _ _ _ _ _ _ _ _ _ _ _ _ _ _ _ _ _ _ _ _ _ _ _ _ _ _ _ _ _ _ _ _ _ _ _ _ _ _ _ _ _ _ _ _ _ _ _ _ _ _ _ _ _ _ _ _ _ _ _ _ _ _ _ _ _ _ _ _ _ _ _ _ _ _ _ _ _ _ _ _ _ _ _ _ _ _ _ _ _ _ _ _ _ _ _ _ _ _ _ _ _ _ _ _ _ _ _ _ _ _ _ _ _ _ _ _ _ _ _ _ _ _ _ _ _ _ _ _ _ _ _ _ _ _ _ _ _ _ _ _ _ _ _ _ _ _ _ _ _ _ _ _ _ _ _ _ _ _ _ _ _ _ _ _ _ _ _ _ _ _ _ _ _ _ _ _ _ _ _ _ _ _ _ _ ?_
  intro x27 x28 x126 x127 x128 x129 x130 x131 x132 x133 x134 x135 x136 x137 x138 x139 x140 x141 x142 x143 x144 x145 x146 x147 w3 hc3 hk3
  have k3 : Kx (fun _ => False) w w3 := ((w7_kx w _).trans HK2.out (fun b hb h => by omega)).trans hk3 (fun b hb h => by omega)
  have r3 : w3.heap[w.heap.size]? = some (.cells #[.int .i8 sf, .int .i8 wf, .slice sq SN scap, .slice wq WN wcap] 27 (0, 0)) :=
    (hk3.block w.heap.size (by have := HK2.out.size; rw [w7_size] at this; omega) (by omega)).trans ((hr2 0 (by omega) (by omega) (by omega) (by omega)).trans (w7_0 w _))
  have d0 : w3.cell? ⟨w.heap.size, 0, none⟩ = some (.int .i8 sf) := by rw [cell_of_row _ _ _ _ _ _ r3]; rfl
  have d1 : w3.cell? ⟨w.heap.size, 1, none⟩ = some (.int .i8 wf) := by rw [cell_of_row _ _ _ _ _ _ r3]; rfl
  have dL : w3.cell? ⟨L, 3, none⟩ = some (.slice (some ⟨MB, 0, none⟩) n n) := by rw [k3.cell (lt HH.out.mem) (fun h => h)]; exact HH.out.mem
  obtain ⟨cur, hrow, hcs⟩ := HH.out.row
  have lMB : MB < w.heap.size := (Array.getElem?_eq_some_iff.1 hrow).1
  have hrow3 : w3.heap[MB]? = some (.cells cur 57 (0, 0)) := (k3.block MB lMB (fun h => h)).trans hrow
  have ex : ∀ k, k < 4 → ∃ v, w3.cell? ⟨MB, i * 4 + k, none⟩ = some v := fun k hk => ⟨cur[i * 4 + k]'(by omega), by rw [cell_of_row _ _ _ _ _ _ hrow3]; exact Array.getElem?_eq_getElem _⟩
  obtain ⟨v0, t0⟩ := ex 0 (by omega)
  obtain ⟨v1, t1⟩ := ex 1 (by omega)
  obtain ⟨v2, t2⟩ := ex 2 (by omega)
  obtain ⟨v3, t3⟩ := ex 3 (by omega)
  have fr : ∀ k, w3.frozen? ⟨MB, k, none⟩ = false := fun k => by simp [World.frozen?, hrow3]
  rw [Nat.add_zero] at t0
  have HC3 := hideIt hc3
  have HK3 := hideIt hk3
  have HR3 := hideIt (And.intro k3 (And.intro r3 hrow3))
  have HC := hideIt (And.intro hr2 (fun (a : Addr) (v : Value) => @c2 a v))
  clear hc3 hk3 k3 r3 hrow3 hr2 c2 c7 hrow ex a3
  go_wp2_with fail
  refine wp_still ?_
  have hS : RS37 L MB n w.heap.size sf wf w3.drew := ⟨dL, d0, d1⟩
  have hw1 : IntKind.i64.wrap sf = sf := by rw [IntKind.wrap_i64]; omega
  have hw2 : IntKind.i64.wrap wf = wf := by rw [IntKind.wrap_i64]; omega
  refine wp_region_held (S := RS37 L MB n w.heap.size sf wf) (by kernel_rfl) ?_
  refine takeV 0 148 (.pointer (some ⟨L, 0, none⟩)) rfl rfl (by kernel_rfl) (by kernel_rfl) (by kernel_rfl) (fun _ _ _ h => h) (by kernel_rfl) (by intro W _; go_simp) hS ?_
  refine takeV 1 149 (.pointer (some ⟨L, 0, none⟩)) rfl rfl (by kernel_rfl) (by kernel_rfl) (by kernel_rfl) (fun _ _ _ h => h) (by kernel_rfl) (by intro W _; go_simp) hS ?_
  refine takeV 2 150 (.pointer (some ⟨L, 3, none⟩)) rfl rfl (by kernel_rfl) (by kernel_rfl) (by kernel_rfl) (fun _ _ _ h => h) (by kernel_rfl) (by intro W _; go_simp) hS ?_
  refine takeV 3 151 (.slice (some ⟨MB, 0, none⟩) n n) rfl rfl (by kernel_rfl) (by kernel_rfl) (by kernel_rfl) (fun _ _ _ h => h) (by kernel_rfl) (by intro W hW; obtain ⟨z1, z2, z3⟩ := hW; go_simp) hS ?_
  refine takeV 4 152 (.int .i64 i) rfl rfl (by kernel_rfl) (by kernel_rfl) (by kernel_rfl) (fun _ _ _ h => h) (by kernel_rfl) (by intro W _; go_simp) hS ?_
  refine takeV 5 153 (.map (some (w.heap.size + 5))) rfl rfl (by kernel_rfl) (by kernel_rfl) (by kernel_rfl) (fun _ _ _ h => h) (by kernel_rfl) (by intro W _; go_simp) hS ?_
  refine takeV 6 154 (.pointer (some ⟨w.heap.size, 0, none⟩)) rfl rfl (by kernel_rfl) (by kernel_rfl) (by kernel_rfl) (fun _ _ _ h => h) (by kernel_rfl) (by intro W _; go_simp) hS ?_
  refine takeV 7 155 (.int .i8 sf) rfl rfl (by kernel_rfl) (by kernel_rfl) (by kernel_rfl) (fun _ _ _ h => h) (by kernel_rfl) (by intro W hW; obtain ⟨z1, z2, z3⟩ := hW; go_simp) hS ?_
  refine takeV 8 156 (.int .i64 sf) rfl rfl (by kernel_rfl) (by kernel_rfl) (by kernel_rfl) (fun _ _ _ h => h) (by kernel_rfl) (by intro W _; go_simp) hS ?_
  refine takeV 9 157 (.agg #[.map (some (w.heap.size + 5)), .int .i64 sf]) rfl rfl (by kernel_rfl) (by kernel_rfl) (by kernel_rfl) (fun _ _ _ h => h) (by kernel_rfl) (fun W _ => run_build_op 55 _ rfl (t55 _ _) (by kernel_rfl)) hS ?_
  refine takeV 10 158 (.map (some (w.heap.size + 6))) rfl rfl (by kernel_rfl) (by kernel_rfl) (by kernel_rfl) (fun _ _ _ h => h) (by kernel_rfl) (by intro W _; go_simp) hS ?_
  refine takeV 11 159 (.pointer (some ⟨w.heap.size, 1, none⟩)) rfl rfl (by kernel_rfl) (by kernel_rfl) (by kernel_rfl) (fun _ _ _ h => h) (by kernel_rfl) (by intro W _; go_simp) hS ?_
  refine takeV 12 160 (.int .i8 wf) rfl rfl (by kernel_rfl) (by kernel_rfl) (by kernel_rfl) (fun _ _ _ h => h) (by kernel_rfl) (by intro W hW; obtain ⟨z1, z2, z3⟩ := hW; go_simp) hS ?_
  refine takeV 13 161 (.int .i64 wf) rfl rfl (by kernel_rfl) (by kernel_rfl) (by kernel_rfl) (fun _ _ _ h => h) (by kernel_rfl) (by intro W _; go_simp) hS ?_
  refine takeV 14 162 (.agg #[.map (some (w.heap.size + 6)), .int .i64 wf]) rfl rfl (by kernel_rfl) (by kernel_rfl) (by kernel_rfl) (fun _ _ _ h => h) (by kernel_rfl) (fun W _ => run_build_op 55 _ rfl (t55 _ _) (by kernel_rfl)) hS ?_
  refine takeV 15 163 (.agg #[.map (some (w.heap.size + 5)), .int .i64 sf, .map (some (w.heap.size + 6)), .int .i64 wf]) rfl rfl (by kernel_rfl) (by kernel_rfl) (by kernel_rfl) (fun _ _ _ h => h) (by kernel_rfl) (fun W _ => run_build_op 57 _ rfl (t57 _ _ _ _) (by kernel_rfl)) hS ?_
  refine takeV 16 164 (.pointer (some ⟨MB, i * 4, none⟩)) rfl rfl (by kernel_rfl) (by kernel_rfl) (by kernel_rfl) (fun _ _ _ h => h) (by kernel_rfl) (by intro W _; go_simp) hS ?_
  rw [show (Act.put _ _ _ : Act) = { tmps := #[.slice (some ⟨mb, mo, none⟩) n mc, s1, .slice kq nk kc, .bool flush, s4, s5, s6, s7, s8, s9, s10, s11, .pointer (some ⟨L, 0, none⟩), .slice (some ⟨EX, 0, none⟩) n n, .bool al, .int .i64 i, .pointer (some ⟨w.heap.size, 0, none⟩), .pointer (some ⟨w.heap.size + 1, 0, none⟩), .pointer (some ⟨w.heap.size + 2, 0, none⟩), .pointer (some ⟨w.heap.size + 3, 0, none⟩), .pointer (some ⟨w.heap.size + 4, 0, none⟩), .map (some (w.heap.size + 5)), .map (some (w.heap.size + 6)), s23, x24, x25, s26, x27, x28, s29, s30, s31, s32, s33, s34, s35, s36, s37, s38, s39, s40, s41, s42, s43, s44, s45, s46, s47, s48, s49, s50, s51, s52, s53, s54, s55, s56, s57, s58, s59, s60, s61, s62, s63, s64, s65, s66, s67, s68, s69, s70, s71, s72, s73, s74, s75, s76, s77, s78, s79, s80, s81, s82, s83, s84, s85, .int .i64 n, .int .i64 i, .bool true, .int .i64 i, .slice (some ⟨mb, mo, none⟩) n mc, .int .i64 i, .pointer (some ⟨mb, mo + i * 4, none⟩), .agg #[.int .i8 sf, .int .i8 wf, .slice sq SN scap, .slice wq WN wcap], .map (some (w.heap.size + 5)), .map (some (w.heap.size + 6)), .pointer (some ⟨w.heap.size, 2, none⟩), .slice sq SN scap, .int .i64 SN, .int .i64 SN, x100, x101, x102, x103, x104, x105, x106, x107, x108, x109, x110, x111, x112, x113, x114, x115, x116, x117, x118, x119, x120, x121, .pointer (some ⟨w.heap.size, 3, none⟩), .slice wq WN wcap, .int .i64 WN, .int .i64 WN, x126, x127, x128, x129, x130, x131, x132, x133, x134, x135, x136, x137, x138, x139, x140, x141, x142, x143, x144, x145, x146, x147, .pointer (some ⟨L, 0, none⟩), .pointer (some ⟨L, 0, none⟩), .pointer (some ⟨L, 3, none⟩), .slice (some ⟨MB, 0, none⟩) n n, .int .i64 i, .map (some (w.heap.size + 5)), .pointer (some ⟨w.heap.size, 0, none⟩), .int .i8 sf, .int .i64 sf, .agg #[.map (some (w.heap.size + 5)), .int .i64 sf], .map (some (w.heap.size + 6)), .pointer (some ⟨w.heap.size, 1, none⟩), .int .i8 wf, .int .i64 wf, .agg #[.map (some (w.heap.size + 6)), .int .i64 wf], .agg #[.map (some (w.heap.size + 5)), .int .i64 sf, .map (some (w.heap.size + 6)), .int .i64 wf], .pointer (some ⟨MB, i * 4, none⟩), s165, s166, s167, s168, s169, s170, s171, s172, s173, s174, s175, s176, s177, s178, s179, s180, s181, s182, s183, s184, s185, s186, s187, s188, s189, s190, s191, s192, s193, s194, s195, s196, s197, s198, s199, s200, s201, s202, s203, s204, s205, s206, s207, s208, s209, s210, s211, s212, s213, s214, s215, s216, s217, s218, s219, s220, s221, s222, s223, s224, s225, s226, s227, s228, s229, s230, s231, s232, s233, s234, s235, s236, s237, s238, s239, s240, s241, s242, s243, s244, s245, s246, s247, s248, s249, s250, s251, s252, s253, s254, s255, s256, s257, s258, s259, s260, s261, s262, s263, s264, s265, s266, s267, s268, s269, s270, s271, s272, s273, s274, s275, s276, s277, s278, s279, s280, s281, s282, s283, s284, s285, s286, s287, s288, s289, s290, s291, s292, s293, s294, s295, s296, s297, s298, s299, s300, s301, s302, s303, s304, s305], defers := [] } from by kernel_rfl]
  obtain ⟨w4, hw4⟩ : ∃ w4, w4 = (((w3.drew.setCell ⟨MB, i * 4, none⟩ (.map (some (w.heap.size + 5)))).setCell ⟨MB, i * 4 + 1, none⟩ (.int .i64 sf)).setCell ⟨MB, i * 4 + 2, none⟩ (.map (some (w.heap.size + 6)))).setCell ⟨MB, i * 4 + 3, none⟩ (.int .i64 wf) := ⟨_, rfl⟩
  have hS4 : RS37 L MB n w.heap.size sf wf w4 := by
    have h1 := HH.out.ne
    rw [hw4]
    refine ⟨?_, ?_, ?_⟩
    · rw [World.cell?_setCell_other _ _ _ _ (by intro e; injection e; omega), World.cell?_setCell_other _ _ _ _ (by intro e; injection e; omega), World.cell?_setCell_other _ _ _ _ (by intro e; injection e; omega), World.cell?_setCell_other _ _ _ _ (by intro e; injection e; omega)]
      exact dL
    · rw [World.cell?_setCell_other _ _ _ _ (by intro e; injection e; omega), World.cell?_setCell_other _ _ _ _ (by intro e; injection e; omega), World.cell?_setCell_other _ _ _ _ (by intro e; injection e; omega), World.cell?_setCell_other _ _ _ _ (by intro e; injection e; omega)]
      exact d0
    · rw [World.cell?_setCell_other _ _ _ _ (by intro e; injection e; omega), World.cell?_setCell_other _ _ _ _ (by intro e; injection e; omega), World.cell?_setCell_other _ _ _ _ (by intro e; injection e; omega), World.cell?_setCell_other _ _ _ _ (by intro e; injection e; omega)]
      exact d1
  refine allSkip 17 none w4 rfl rfl (by kernel_rfl) (by kernel_rfl) (by rw [hw4]; go_simp) hS4 ?_
  refine wpAnyH_done (by kernel_rfl) ?_ _
  refine ‹∀ a w, Code.wp Yba.prog _ (Exit.inBlock 3 _) a w → _› _ _ ?_
  obtain ⟨k3, r3, hrow3⟩ := HR3.out
  obtain ⟨ecur, her, hes⟩ := HH.out.erow
  have lEX : EX < w.heap.size := (Array.getElem?_eq_some_iff.1 her).1
  have her3 : w3.heap[EX]? = some (.cells ecur 4 (0, 0)) := (k3.block EX lEX (fun h => h)).trans her
  have k34 : Kx (fun b => b = MB) w3 w4 := by rw [hw4]; exact (Kx.refl (fun b => b = MB) w3).drew.trans (put4_kx w3.drew MB (i * 4) _ _ _ _) (fun _ _ h => h)
  have ne := HH.out.ne
  have her4 : w4.heap[EX]? = some (.cells ecur 4 (0, 0)) := (k34.block EX (by have := k3.size; omega) (fun e => ne.1 e.symm)).trans her3
  have s2 : w.heap.size + 7 ≤ w2.heap.size := by have := HK2.out.size; rw [w7_size] at this; exact this
  have s3 : w2.heap.size ≤ w3.heap.size := HK3.out.size
  have cw : ∀ {a : Addr} {v : Value}, w.cell? a = some v → a.block ≠ MB → w4.cell? a = some v := fun h hne => by
    rw [k34.cell (by have := lt h; have := k3.size; omega) hne, k3.cell (lt h) (fun h => h)]; exact h
  have b2 : ∀ b, b < w2.heap.size → w.heap.size ≤ b → b ≠ w.heap.size + 6 → b ≠ w.heap.size + 2 → b ≠ w.heap.size + 4 → w4.heap[b]? = w2.heap[b]? := fun b h1 h2 h3 h4 h5 =>
    (k34.block b (by omega) (by omega)).trans (HK3.out.block b h1 (by omega))
  have b3 : ∀ b, b < w3.heap.size → w.heap.size ≤ b → w4.heap[b]? = w3.heap[b]? := fun b h1 h2 => k34.block b h1 (by omega)
  refine tailB w.heap.size (w.heap.size + 1) (w.heap.size + 2) (w.heap.size + 3) (w.heap.size + 4) kb ko nk kc EX n i kq flush al sf wf (cntTo EK EN SN) (cntTo FK FN WN) (prsTo EK SN) (prsTo FK WN) q (ecur[i]'(by omega)) w4 hi HH.out.kN HH.out.bq HH.out.hkq
    (fun k hk => cw (HH.out.k0 k hk) (HH.out.knb (by omega))) hS4.2.1 hS4.2.2
    (fun j hj => (World.cell?_of_block (a := ⟨w.heap.size + 1, j, none⟩) (b2 (w.heap.size + 1) (by omega) (by omega) (by omega) (by omega) (by omega))).trans (HC2.out.sc j hj))
    (fun j hj => (World.cell?_of_block (a := ⟨w.heap.size + 2, j, none⟩) (b3 (w.heap.size + 2) (by omega) (by omega))).trans (HC3.out.sc j hj))
    (fun j hj => (World.cell?_of_block (a := ⟨w.heap.size + 3, j, none⟩) (b2 (w.heap.size + 3) (by omega) (by omega) (by omega) (by omega) (by omega))).trans (HC2.out.sp j hj))
    (fun j hj => (World.cell?_of_block (a := ⟨w.heap.size + 4, j, none⟩) (b3 (w.heap.size + 4) (by omega) (by omega))).trans (HC3.out.sp j hj))
    ((cell_of_row _ _ _ _ _ _ her4).trans (Array.getElem?_eq_getElem (by omega))) (by simp [World.frozen?, her4]) _ _ _ _ _ _ _ _ _ _ _ _ _ _ _ _ _ _ _ _ _ _ _ _ _ _ _ _ _ _ _ _ _ _ _ _ _ _ _ _ _ _ _ _ _ _ _ _ _ _ _ _ _ _ _ _ _ _ _ _ _ _ _ _ _ _ _ _ _ _ _ _ _ _ _ _ _ _ _ _ _ _ _ _ _ _ _ _ _ _ _ _ _ _ _ _ _ _ _ _ _ _ _ _ _ _ _ _ _ _ _ _ _ _ _ _ _ _ _ _ _ _ _ _ _ _ _ _ _ _ _ _ _ _ _ _ _ _ _ _ _ _ _ _ _ _ _ _ _ _ _ _ _ _ _ _ _ _ _ _ _ _ _ _ _ _ _ _ _ _ _ _ _ _ _ _ _ _ _ _ _ _ _ _ _ _ _ _ _ _ _ _ _ _ _ _ _ _ _ _ _ _ _ _ _ _ _ _ _ _ _ _ _ _ _ _ _ _ _ _ _ _ _ _ _ _ _ _ _ _ _ _ _ _ _ _ _ _ _ _ _ _ _ _ _ _ _ _ _ _ _ _ _ _ _ _ _ _ _ _ _ _ _ _ _ _ _ _ _ _ _ _ _ _ _ _ _ _ _ _ _ _ _ _ _ _ _ _ _ _ _ _ _ _ _ _ _ _ ?_
  intro z29 z30 z32 z33 z165 z166 z167 z168 z169 z170 z171 z172 z173 z174 z175 z176 z177 z178 z179 z180 z181 z182 z183 z184 z185 z186 z187 z188 z189 z190 z191 z192 z193 z194 z195 z196 z197 z198 z199 z200 z201 z202 z203 z204 z205 z206 z207 z208 z209 z210 z211 z212 z213 z214
  have HE := hideIt (show RoundEnd w (w4.setCell ⟨EX, i, none⟩ (.bool (lagR sf wf flush (cntTo EK EN SN) (cntTo FK FN WN) (prsTo EK SN) (prsTo FK WN) q nk))) MB EX n i sf wf (cntTo EK EN SN) (cntTo FK FN WN) (prsTo EK SN) (prsTo FK WN) (lagR sf wf flush (cntTo EK EN SN) (cntTo FK FN WN) (prsTo EK SN) (prsTo FK WN) q nk) from by
    rw [hw4]
    exact round_end _ k3 (HC2.out.map.of_block (HK3.out.block (w.heap.size + 5) (by omega) (by omega))) HC3.out.map hrow3 hcs her3 hes hi ne.1 (by omega) (by omega) lMB lEX)
  clear b2 b3 cw k34 k3 r3 hrow3 her her3 her4 hS4 hS ne hw4 s2 s3 t0 t1 t2 t3 fr d0 d1 dL hw1 hw2
  go_wp2_with fail
  exact HKK.out _ _ _ _ _ _ _ _ _ _ _ _ _ _ _ _ _ _ _ _ _ _ _ _ _ _ _ _ _ _ _ _ _ _ _ _ _ _ _ _ _ _ _ _ _ _ _ _ _ _ _ _ _ _ _ _ _ _ _ _ _ _ _ _ _ _ _ _ _ _ _ _ _ _ _ _ _ _ _ _ _ _ _ _ _ _ _ _ _ _ _ _ _ _ _ _ _ _ _ _ _ _ _ _ _ _ _ _ _ _ _ _ _ _ _ _ _ _ _ _ _ _ _ _ _ _ _ _ _ _ _ _ _ _ _ _ _ _ _ _ _ _ _ _ _ HE.out
end Go.Proofs.Ybulkasdy
