/- The loop over the keys' strings. -/
import Derived.Test.YbulkasdyOne
namespace Go.Proofs.Ybulkasdy
open Go.RowKit Go.Maps Go.MuLone

noncomputable def body12 : Code := inLoop (inBlk ((Yba.f3.body.bind (findBlk 12)).getD .skip))

/-- The strings of k keys. -/
def strsTo (q : Nat → Int) (k : Nat) : List Value := (List.range k).map fun j => .string (tbl (q j))

theorem strsTo_succ (q : Nat → Int) (k : Nat) : strsTo q (k + 1) = strsTo q k ++ [.string (tbl (q k))] := by simp [strsTo, List.range_succ]

theorem isStrs_of {w : World} {G nk : Nat} {q : Nat → Int} (h : w.ownsRow G 9 1 (.slice (some ⟨G, 0, none⟩) nk nk) nk (strsTo q nk)) (hn : nk ≤ 256) : IsStrs w (.slice (some ⟨G, 0, none⟩) nk nk) nk (fun k => tbl (q k)) := by
  refine ⟨hn, _, _, rfl, fun _ => ⟨G, rfl, fun k hk => ?_⟩⟩
  obtain ⟨_, ⟨h, _⟩ | ⟨g, cap, cur, hv, _, hg, _, _, _, ht⟩⟩ := h
  · cases h
  · injection hv with h1 _ _
    injection h1 with h1
    injection h1 with h1
    subst h1
    rw [cell_of_row w G k cur 9 (0, 0) hg]
    have h1 : (cur.toList.take (nk * 1))[k]? = some (.string (tbl (q k))) := by rw [ht]; simp [strsTo, hk]
    rw [List.getElem?_take] at h1
    simp only [Nat.mul_one, hk, if_true] at h1
    simpa using h1

theorem ownsRow_al {w : World} {B e n : Nat} {v : Value} {l : List Value} (h : w.ownsRow B e 1 v n l) (o : Obj) : (w.alloc o).ownsRow B e 1 v n l := by
  obtain ⟨h1, h2⟩ := h
  refine ⟨h1, h2.imp (fun h => h) ?_⟩
  rintro ⟨g, cap, cur, hv, hb, hg, h3⟩
  exact ⟨g, cap, cur, hv, hb, (Below.heap_alloc _ _ _ (Array.getElem?_eq_some_iff.1 hg).1).trans hg, h3⟩

theorem Yba.info9 : (Yba.prog.info? 9).map (fun i => (i.zero, i.size, i.bytes)) = some (some (.string ⟨#[]⟩), 1, 16) := by kernel_rfl

set_option maxHeartbeats 8000000 in
set_option maxRecDepth 1000000 in
theorem rounds12 (kb ko nk kc G : Nat) (kq : Option Addr) (q : Nat → Int) (w0 : World) (hk : nk ≤ 256) (hq : ∀ k, 0 ≤ q k ∧ q k ≤ 255) (hkq : 0 < nk → kq = some ⟨kb, ko, none⟩)
    (h0 : ∀ k, k < nk → w0.cell? ⟨kb, ko + k, none⟩ = some (.int .u8 (q k))) (nG : 0 < nk → kb ≠ G)
    (K : Act → World → Prop) (Q : Exit → Act → World → Prop) (s0 s1 s2 s3 s4 s5 s6 s7 s8 s9 s10 s11 s12 s13 s14 s15 s16 s17 s18 s19 s20 s21 s22 s23 s24 s25 s26 s27 s28 s29 s30 s31 s32 s33 s35 s37 s38 s39 s40 s41 s42 s43 s44 s45 s46 s47 s48 s49 s50 s51 s52 s53 s54 s55 s56 s57 s58 s59 s60 s61 s62 s63 s64 s65 s66 s67 s68 s69 s70 s71 s72 s73 s74 s75 s76 s77 s78 s79 s80 s81 s82 s83 s84 s85 s86 s87 s88 s89 s90 s91 s92 s93 s94 s95 s96 s97 s98 s99 s100 s101 s102 s103 s104 s105 s106 s107 s108 s109 s110 s111 s112 s113 s114 s115 s116 s117 s118 s119 s120 s121 s122 s123 s124 s125 s126 s127 s128 s129 s130 s131 s132 s133 s134 s135 s136 s137 s138 s139 s140 s141 s142 s143 s144 s145 s146 s147 s148 s149 s150 s151 s152 s153 s154 s155 s156 s157 s158 s159 s160 s161 s162 s163 s164 s165 s166 s167 s168 s169 s170 s171 s172 s173 s174 s175 s176 s177 s178 s179 s180 s181 s182 s183 s184 s185 s186 s187 s188 s189 s190 s191 s192 s193 s194 s195 s196 s197 s198 s199 s200 s201 s202 s203 s204 s205 s206 s207 s208 s209 s210 s211 s212 s213 s214 s215 s216 s217 s218 s231 s232 s233 s234 s235 s236 s237 s238 s239 s240 s241 s242 s243 s244 s245 s246 s247 s248 s249 s250 s251 s252 s253 s254 s255 s256 s257 s258 s259 s260 s261 s262 s263 s264 s265 s266 s267 s268 s269 s270 s271 s272 s273 s274 s275 s276 s277 s278 s279 s280 s281 s282 s283 s284 s285 s286 s287 s288 s289 s290 s291 s292 s293 s294 s295 s296 s297 s298 s299 s300 s301 s302 s303 s304 s305 : Value)
    (hK : ∀ (x36 x222 x223 x224 x225 x226 x227 x228 x229 x230 : Value) (w' : World), Kx (fun b => b = G) w0 w' → IsStrs w' (.slice (some ⟨G, 0, none⟩) nk nk) nk (fun k => tbl (q k)) → K ⟨#[s0, s1, s2, s3, s4, s5, s6, s7, s8, s9, s10, s11, s12, s13, s14, s15, s16, s17, s18, s19, s20, s21, s22, s23, s24, s25, s26, s27, s28, s29, s30, s31, s32, s33, .slice (some ⟨G, 0, none⟩) nk nk, s35, x36, s37, s38, s39, s40, s41, s42, s43, s44, s45, s46, s47, s48, s49, s50, s51, s52, s53, s54, s55, s56, s57, s58, s59, s60, s61, s62, s63, s64, s65, s66, s67, s68, s69, s70, s71, s72, s73, s74, s75, s76, s77, s78, s79, s80, s81, s82, s83, s84, s85, s86, s87, s88, s89, s90, s91, s92, s93, s94, s95, s96, s97, s98, s99, s100, s101, s102, s103, s104, s105, s106, s107, s108, s109, s110, s111, s112, s113, s114, s115, s116, s117, s118, s119, s120, s121, s122, s123, s124, s125, s126, s127, s128, s129, s130, s131, s132, s133, s134, s135, s136, s137, s138, s139, s140, s141, s142, s143, s144, s145, s146, s147, s148, s149, s150, s151, s152, s153, s154, s155, s156, s157, s158, s159, s160, s161, s162, s163, s164, s165, s166, s167, s168, s169, s170, s171, s172, s173, s174, s175, s176, s177, s178, s179, s180, s181, s182, s183, s184, s185, s186, s187, s188, s189, s190, s191, s192, s193, s194, s195, s196, s197, s198, s199, s200, s201, s202, s203, s204, s205, s206, s207, s208, s209, s210, s211, s212, s213, s214, s215, s216, s217, s218, .slice kq nk kc, .int .i64 nk, .int .i64 nk, x222, x223, x224, x225, x226, x227, x228, x229, x230, s231, s232, s233, s234, s235, s236, s237, s238, s239, s240, s241, s242, s243, s244, s245, s246, s247, s248, s249, s250, s251, s252, s253, s254, s255, s256, s257, s258, s259, s260, s261, s262, s263, s264, s265, s266, s267, s268, s269, s270, s271, s272, s273, s274, s275, s276, s277, s278, s279, s280, s281, s282, s283, s284, s285, s286, s287, s288, s289, s290, s291, s292, s293, s294, s295, s296, s297, s298, s299, s300, s301, s302, s303, s304, s305], []⟩ w') :
    ∀ (m i y : Nat) (z : Int) (w : World) (s36 s222 s223 s224 s225 s226 s227 s228 s229 s230 : Value), i + m = nk → y = i → z = (i : Int) → Kx (fun b => b = G) w0 w → w.ownsRow G 9 1 (.slice (some ⟨G, 0, none⟩) i nk) i (strsTo q i) →
      Code.rounds Yba.prog body12 (Exit.inBlock 12 (Exit.then K Q)) (m + 1) ⟨#[s0, s1, s2, s3, s4, s5, s6, s7, s8, s9, s10, s11, s12, s13, s14, s15, s16, s17, s18, s19, s20, s21, s22, s23, s24, s25, s26, s27, s28, s29, s30, s31, s32, s33, .slice (some ⟨G, 0, none⟩) y nk, s35, s36, s37, s38, s39, s40, s41, s42, s43, s44, s45, s46, s47, s48, s49, s50, s51, s52, s53, s54, s55, s56, s57, s58, s59, s60, s61, s62, s63, s64, s65, s66, s67, s68, s69, s70, s71, s72, s73, s74, s75, s76, s77, s78, s79, s80, s81, s82, s83, s84, s85, s86, s87, s88, s89, s90, s91, s92, s93, s94, s95, s96, s97, s98, s99, s100, s101, s102, s103, s104, s105, s106, s107, s108, s109, s110, s111, s112, s113, s114, s115, s116, s117, s118, s119, s120, s121, s122, s123, s124, s125, s126, s127, s128, s129, s130, s131, s132, s133, s134, s135, s136, s137, s138, s139, s140, s141, s142, s143, s144, s145, s146, s147, s148, s149, s150, s151, s152, s153, s154, s155, s156, s157, s158, s159, s160, s161, s162, s163, s164, s165, s166, s167, s168, s169, s170, s171, s172, s173, s174, s175, s176, s177, s178, s179, s180, s181, s182, s183, s184, s185, s186, s187, s188, s189, s190, s191, s192, s193, s194, s195, s196, s197, s198, s199, s200, s201, s202, s203, s204, s205, s206, s207, s208, s209, s210, s211, s212, s213, s214, s215, s216, s217, s218, .slice kq nk kc, .int .i64 nk, .int .i64 z, s222, s223, s224, s225, s226, s227, s228, s229, s230, s231, s232, s233, s234, s235, s236, s237, s238, s239, s240, s241, s242, s243, s244, s245, s246, s247, s248, s249, s250, s251, s252, s253, s254, s255, s256, s257, s258, s259, s260, s261, s262, s263, s264, s265, s266, s267, s268, s269, s270, s271, s272, s273, s274, s275, s276, s277, s278, s279, s280, s281, s282, s283, s284, s285, s286, s287, s288, s289, s290, s291, s292, s293, s294, s295, s296, s297, s298, s299, s300, s301, s302, s303, s304, s305], []⟩ w := by
  obtain ⟨i0, hi0, hz0, hz1, hz2⟩ := info_parts Yba.info9
  intro m
  induction m with
  | zero =>
    intro i y z w s36 s222 s223 s224 s225 s226 s227 s228 s229 s230 hm hy hz hx ho
    obtain rfl : i = nk := by omega
    subst hy
    subst hz
    have HX := hideIt hx
    have HO := hideIt ho
    have HK := hideIt hK
    clear hx ho hK h0 hq hkq
    rw [rounds_succ]
    conv => arg 2; whnf
    go_wp2_with fail
    exact HK.out _ _ _ _ _ _ _ _ _ _ _ HX.out (isStrs_of HO.out hk)
  | succ m ih =>
    intro i y z w s36 s222 s223 s224 s225 s226 s227 s228 s229 s230 hm hy hz hx ho
    have hi : i < nk := by omega
    obtain rfl := hkq (by omega)
    subst hy
    subst hz
    have g0 : w.cell? ⟨kb, ko + y, none⟩ = some (.int .u8 (q y)) := by rw [hx.cell (World.block_lt_of_cell? w0 _ (h0 y hi)) (nG (by omega))]; exact h0 y hi
    have hqi := hq y
    have HX := hideIt hx
    have HO := hideIt ho
    have HK := hideIt hK
    have IH := hideIt ih
    clear hx ho hK h0 hq ih
    rw [rounds_succ]
    obtain ⟨R, hR⟩ : ∃ R, R = Code.rounds Yba.prog body12 (Exit.inBlock 12 (Exit.then K Q)) (m + 1) := ⟨_, rfl⟩
    rw [← hR]
    have HRR := hideIt hR
    clear hR
    conv => arg 2; whnf
    go_wp2_with fail
    refine (tbl_any (q y) hqi.1 hqi.2 w).mono ?_
    rintro e w' ⟨rfl, hw'⟩
    subst hw'
    go_wp2_with (at_builtin; refine wpList_append_fits _ rfl _ _ 58 rfl G 9 i0 1 Yba.underlying58 hi0 hz1 G y nk (strsTo q y) rfl ?c0 ⟨w'.heap.size, 0, none⟩ 1 1 [.string (tbl (q y))] rfl rfl ?c1 ?c2 ?c3 ?_)
    case c0 => exact ownsRow_al HO.out _
    case c1 =>
      intro j u hj
      match j with
      | 0 =>
        simp only [List.getElem?_cons_zero, Option.some.injEq] at hj
        subst hj
        exact new_cell w' _ _ _ rfl
      | j + 1 => simp at hj
    case c2 => intro u hu; simp only [List.mem_singleton] at hu; subst hu; rfl
    case c3 => omega
    intro w2 ho2 hg2
    have hx2 : Kx (fun b => b = G) w0 w2 := (HX.out.alloc _).grown hg2 (fun b e _ => by simp only [Option.some.injEq] at e; exact e.symm)
    have HX2 := hideIt hx2
    have HO2 := hideIt ho2
    clear hx2 ho2 hg2
    go_wp2_with fail
    rw [HRR.out]
    exact IH.out (y + 1) _ _ w2 _ _ _ _ _ _ _ _ _ _ (by omega) rfl (by first | omega | go_num) HX2.out (by rw [strsTo_succ]; exact HO2.out)

set_option maxHeartbeats 8000000 in
set_option maxRecDepth 1000000 in
theorem loop12 (kb ko nk kc G : Nat) (kq : Option Addr) (q : Nat → Int) (w0 : World) (hk : nk ≤ 256) (hq : ∀ k, 0 ≤ q k ∧ q k ≤ 255) (hkq : 0 < nk → kq = some ⟨kb, ko, none⟩)
    (h0 : ∀ k, k < nk → w0.cell? ⟨kb, ko + k, none⟩ = some (.int .u8 (q k))) (nG : 0 < nk → kb ≠ G)
    (K : Act → World → Prop) (Q : Exit → Act → World → Prop) (s0 s1 s2 s3 s4 s5 s6 s7 s8 s9 s10 s11 s12 s13 s14 s15 s16 s17 s18 s19 s20 s21 s22 s23 s24 s25 s26 s27 s28 s29 s30 s31 s32 s33 s35 s37 s38 s39 s40 s41 s42 s43 s44 s45 s46 s47 s48 s49 s50 s51 s52 s53 s54 s55 s56 s57 s58 s59 s60 s61 s62 s63 s64 s65 s66 s67 s68 s69 s70 s71 s72 s73 s74 s75 s76 s77 s78 s79 s80 s81 s82 s83 s84 s85 s86 s87 s88 s89 s90 s91 s92 s93 s94 s95 s96 s97 s98 s99 s100 s101 s102 s103 s104 s105 s106 s107 s108 s109 s110 s111 s112 s113 s114 s115 s116 s117 s118 s119 s120 s121 s122 s123 s124 s125 s126 s127 s128 s129 s130 s131 s132 s133 s134 s135 s136 s137 s138 s139 s140 s141 s142 s143 s144 s145 s146 s147 s148 s149 s150 s151 s152 s153 s154 s155 s156 s157 s158 s159 s160 s161 s162 s163 s164 s165 s166 s167 s168 s169 s170 s171 s172 s173 s174 s175 s176 s177 s178 s179 s180 s181 s182 s183 s184 s185 s186 s187 s188 s189 s190 s191 s192 s193 s194 s195 s196 s197 s198 s199 s200 s201 s202 s203 s204 s205 s206 s207 s208 s209 s210 s211 s212 s213 s214 s215 s216 s217 s218 s231 s232 s233 s234 s235 s236 s237 s238 s239 s240 s241 s242 s243 s244 s245 s246 s247 s248 s249 s250 s251 s252 s253 s254 s255 s256 s257 s258 s259 s260 s261 s262 s263 s264 s265 s266 s267 s268 s269 s270 s271 s272 s273 s274 s275 s276 s277 s278 s279 s280 s281 s282 s283 s284 s285 s286 s287 s288 s289 s290 s291 s292 s293 s294 s295 s296 s297 s298 s299 s300 s301 s302 s303 s304 s305 : Value)
    (hK : ∀ (x36 x222 x223 x224 x225 x226 x227 x228 x229 x230 : Value) (w' : World), Kx (fun b => b = G) w0 w' → IsStrs w' (.slice (some ⟨G, 0, none⟩) nk nk) nk (fun k => tbl (q k)) → K ⟨#[s0, s1, s2, s3, s4, s5, s6, s7, s8, s9, s10, s11, s12, s13, s14, s15, s16, s17, s18, s19, s20, s21, s22, s23, s24, s25, s26, s27, s28, s29, s30, s31, s32, s33, .slice (some ⟨G, 0, none⟩) nk nk, s35, x36, s37, s38, s39, s40, s41, s42, s43, s44, s45, s46, s47, s48, s49, s50, s51, s52, s53, s54, s55, s56, s57, s58, s59, s60, s61, s62, s63, s64, s65, s66, s67, s68, s69, s70, s71, s72, s73, s74, s75, s76, s77, s78, s79, s80, s81, s82, s83, s84, s85, s86, s87, s88, s89, s90, s91, s92, s93, s94, s95, s96, s97, s98, s99, s100, s101, s102, s103, s104, s105, s106, s107, s108, s109, s110, s111, s112, s113, s114, s115, s116, s117, s118, s119, s120, s121, s122, s123, s124, s125, s126, s127, s128, s129, s130, s131, s132, s133, s134, s135, s136, s137, s138, s139, s140, s141, s142, s143, s144, s145, s146, s147, s148, s149, s150, s151, s152, s153, s154, s155, s156, s157, s158, s159, s160, s161, s162, s163, s164, s165, s166, s167, s168, s169, s170, s171, s172, s173, s174, s175, s176, s177, s178, s179, s180, s181, s182, s183, s184, s185, s186, s187, s188, s189, s190, s191, s192, s193, s194, s195, s196, s197, s198, s199, s200, s201, s202, s203, s204, s205, s206, s207, s208, s209, s210, s211, s212, s213, s214, s215, s216, s217, s218, .slice kq nk kc, .int .i64 nk, .int .i64 nk, x222, x223, x224, x225, x226, x227, x228, x229, x230, s231, s232, s233, s234, s235, s236, s237, s238, s239, s240, s241, s242, s243, s244, s245, s246, s247, s248, s249, s250, s251, s252, s253, s254, s255, s256, s257, s258, s259, s260, s261, s262, s263, s264, s265, s266, s267, s268, s269, s270, s271, s272, s273, s274, s275, s276, s277, s278, s279, s280, s281, s282, s283, s284, s285, s286, s287, s288, s289, s290, s291, s292, s293, s294, s295, s296, s297, s298, s299, s300, s301, s302, s303, s304, s305], []⟩ w')
    (s36 s222 s223 s224 s225 s226 s227 s228 s229 s230 : Value) (hr : w0.ownsRow G 9 1 (.slice (some ⟨G, 0, none⟩) 0 nk) 0 []) :
    Code.wp Yba.prog (.loop body12) (Exit.inBlock 12 (Exit.then K Q)) ⟨#[s0, s1, s2, s3, s4, s5, s6, s7, s8, s9, s10, s11, s12, s13, s14, s15, s16, s17, s18, s19, s20, s21, s22, s23, s24, s25, s26, s27, s28, s29, s30, s31, s32, s33, .slice (some ⟨G, 0, none⟩) 0 nk, s35, s36, s37, s38, s39, s40, s41, s42, s43, s44, s45, s46, s47, s48, s49, s50, s51, s52, s53, s54, s55, s56, s57, s58, s59, s60, s61, s62, s63, s64, s65, s66, s67, s68, s69, s70, s71, s72, s73, s74, s75, s76, s77, s78, s79, s80, s81, s82, s83, s84, s85, s86, s87, s88, s89, s90, s91, s92, s93, s94, s95, s96, s97, s98, s99, s100, s101, s102, s103, s104, s105, s106, s107, s108, s109, s110, s111, s112, s113, s114, s115, s116, s117, s118, s119, s120, s121, s122, s123, s124, s125, s126, s127, s128, s129, s130, s131, s132, s133, s134, s135, s136, s137, s138, s139, s140, s141, s142, s143, s144, s145, s146, s147, s148, s149, s150, s151, s152, s153, s154, s155, s156, s157, s158, s159, s160, s161, s162, s163, s164, s165, s166, s167, s168, s169, s170, s171, s172, s173, s174, s175, s176, s177, s178, s179, s180, s181, s182, s183, s184, s185, s186, s187, s188, s189, s190, s191, s192, s193, s194, s195, s196, s197, s198, s199, s200, s201, s202, s203, s204, s205, s206, s207, s208, s209, s210, s211, s212, s213, s214, s215, s216, s217, s218, .slice kq nk kc, .int .i64 nk, .int .i64 0, s222, s223, s224, s225, s226, s227, s228, s229, s230, s231, s232, s233, s234, s235, s236, s237, s238, s239, s240, s241, s242, s243, s244, s245, s246, s247, s248, s249, s250, s251, s252, s253, s254, s255, s256, s257, s258, s259, s260, s261, s262, s263, s264, s265, s266, s267, s268, s269, s270, s271, s272, s273, s274, s275, s276, s277, s278, s279, s280, s281, s282, s283, s284, s285, s286, s287, s288, s289, s290, s291, s292, s293, s294, s295, s296, s297, s298, s299, s300, s301, s302, s303, s304, s305], []⟩ w0 :=
  wp_loop_rounds (nk + 1) (rounds12 kb ko nk kc G kq q w0 hk hq hkq h0 nG K Q s0 s1 s2 s3 s4 s5 s6 s7 s8 s9 s10 s11 s12 s13 s14 s15 s16 s17 s18 s19 s20 s21 s22 s23 s24 s25 s26 s27 s28 s29 s30 s31 s32 s33 s35 s37 s38 s39 s40 s41 s42 s43 s44 s45 s46 s47 s48 s49 s50 s51 s52 s53 s54 s55 s56 s57 s58 s59 s60 s61 s62 s63 s64 s65 s66 s67 s68 s69 s70 s71 s72 s73 s74 s75 s76 s77 s78 s79 s80 s81 s82 s83 s84 s85 s86 s87 s88 s89 s90 s91 s92 s93 s94 s95 s96 s97 s98 s99 s100 s101 s102 s103 s104 s105 s106 s107 s108 s109 s110 s111 s112 s113 s114 s115 s116 s117 s118 s119 s120 s121 s122 s123 s124 s125 s126 s127 s128 s129 s130 s131 s132 s133 s134 s135 s136 s137 s138 s139 s140 s141 s142 s143 s144 s145 s146 s147 s148 s149 s150 s151 s152 s153 s154 s155 s156 s157 s158 s159 s160 s161 s162 s163 s164 s165 s166 s167 s168 s169 s170 s171 s172 s173 s174 s175 s176 s177 s178 s179 s180 s181 s182 s183 s184 s185 s186 s187 s188 s189 s190 s191 s192 s193 s194 s195 s196 s197 s198 s199 s200 s201 s202 s203 s204 s205 s206 s207 s208 s209 s210 s211 s212 s213 s214 s215 s216 s217 s218 s231 s232 s233 s234 s235 s236 s237 s238 s239 s240 s241 s242 s243 s244 s245 s246 s247 s248 s249 s250 s251 s252 s253 s254 s255 s256 s257 s258 s259 s260 s261 s262 s263 s264 s265 s266 s267 s268 s269 s270 s271 s272 s273 s274 s275 s276 s277 s278 s279 s280 s281 s282 s283 s284 s285 s286 s287 s288 s289 s290 s291 s292 s293 s294 s295 s296 s297 s298 s299 s300 s301 s302 s303 s304 s305 hK nk 0 0 0 w0 s36 s222 s223 s224 s225 s226 s227 s228 s229 s230 (by omega) rfl rfl (Kx.refl _ _) hr)
end Go.Proofs.Ybulkasdy
