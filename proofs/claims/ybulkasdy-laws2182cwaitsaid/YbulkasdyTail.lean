/- The tail of a member's round: does the member lag? -/
import Derived.Test.YbulkasdyEnd
namespace Go.Proofs.Ybulkasdy
open Go.RowKit Go.Maps Go.MuLone

/-- A loop's body. -/
def inLoop : Code → Code
  | .loop c => c
  | c => c

noncomputable def body2 : Code := inLoop (inBlk ((Yba.f3.body.bind (findBlk 2)).getD .skip))

/-- What stands behind a region. -/
def findAft (id : Nat) : Code → Option Code
  | .seq (.region i _ _) b => if i = id then some b else findAft id b
  | .seq a b => match findAft id a with
    | some c => some c
    | none => findAft id b
  | .block _ c => findAft id c
  | .loop c => findAft id c
  | .cond _ a b => match findAft id a with
    | some c => some c
    | none => findAft id b
  | _ => none

noncomputable def tail2 : Code := (findAft 37 body2).getD .skip

set_option maxHeartbeats 8000000 in
set_option maxRecDepth 1000000 in
theorem tailB (A SC WC SP WP kb ko nk kc EX n i : Nat) (kq : Option Addr) (flush al : Bool) (sf wf : Int) (sc wc : Nat → Int) (sp wp : Nat → Bool) (q : Nat → Int) (u : Value) (w : World) (hi : i < n) (hk : nk ≤ 256)
    (hq : ∀ k, 0 ≤ q k ∧ q k ≤ 255) (hkq : 0 < nk → kq = some ⟨kb, ko, none⟩) (h0 : ∀ k, k < nk → w.cell? ⟨kb, ko + k, none⟩ = some (.int .u8 (q k)))
    (a0 : w.cell? ⟨A, 0, none⟩ = some (.int .i8 sf)) (a1 : w.cell? ⟨A, 1, none⟩ = some (.int .i8 wf))
    (h1 : ∀ j, j < 4 → w.cell? ⟨SC, j, none⟩ = some (.int .i64 (sc j))) (h2 : ∀ j, j < 4 → w.cell? ⟨WC, j, none⟩ = some (.int .i64 (wc j))) (h3 : ∀ j, j < 4 → w.cell? ⟨SP, j, none⟩ = some (.bool (sp j))) (h4 : ∀ j, j < 4 → w.cell? ⟨WP, j, none⟩ = some (.bool (wp j)))
    (he : w.cell? ⟨EX, i, none⟩ = some u) (hf : w.frozen? ⟨EX, i, none⟩ = false)
    (K : Act → World → Prop) (Q : Exit → Act → World → Prop) (s0 s1 s4 s5 s6 s7 s8 s9 s10 s11 s12 s21 s22 s23 s24 s25 s26 s27 s28 s29 s30 s31 s32 s33 s34 s35 s36 s37 s38 s39 s40 s41 s42 s43 s44 s45 s46 s47 s48 s49 s50 s51 s52 s53 s54 s55 s56 s57 s58 s59 s60 s61 s62 s63 s64 s65 s66 s67 s68 s69 s70 s71 s72 s73 s74 s75 s76 s77 s78 s79 s80 s81 s82 s83 s84 s85 s86 s87 s88 s89 s90 s91 s92 s93 s94 s95 s96 s97 s98 s99 s100 s101 s102 s103 s104 s105 s106 s107 s108 s109 s110 s111 s112 s113 s114 s115 s116 s117 s118 s119 s120 s121 s122 s123 s124 s125 s126 s127 s128 s129 s130 s131 s132 s133 s134 s135 s136 s137 s138 s139 s140 s141 s142 s143 s144 s145 s146 s147 s148 s149 s150 s151 s152 s153 s154 s155 s156 s157 s158 s159 s160 s161 s162 s163 s164 s165 s166 s167 s168 s169 s170 s171 s172 s173 s174 s175 s176 s177 s178 s179 s180 s181 s182 s183 s184 s185 s186 s187 s188 s189 s190 s191 s192 s193 s194 s195 s196 s197 s198 s199 s200 s201 s202 s203 s204 s205 s206 s207 s208 s209 s210 s211 s212 s213 s214 s215 s216 s217 s218 s219 s220 s221 s222 s223 s224 s225 s226 s227 s228 s229 s230 s231 s232 s233 s234 s235 s236 s237 s238 s239 s240 s241 s242 s243 s244 s245 s246 s247 s248 s249 s250 s251 s252 s253 s254 s255 s256 s257 s258 s259 s260 s261 s262 s263 s264 s265 s266 s267 s268 s269 s270 s271 s272 s273 s274 s275 s276 s277 s278 s279 s280 s281 s282 s283 s284 s285 s286 s287 s288 s289 s290 s291 s292 s293 s294 s295 s296 s297 s298 s299 s300 s301 s302 s303 s304 s305 : Value)
    (hK : ∀ (x29 x30 x32 x33 x165 x166 x167 x168 x169 x170 x171 x172 x173 x174 x175 x176 x177 x178 x179 x180 x181 x182 x183 x184 x185 x186 x187 x188 x189 x190 x191 x192 x193 x194 x195 x196 x197 x198 x199 x200 x201 x202 x203 x204 x205 x206 x207 x208 x209 x210 x211 x212 x213 x214 : Value), K ⟨#[s0, s1, .slice kq nk kc, .bool flush, s4, s5, s6, s7, s8, s9, s10, s11, s12, .slice (some ⟨EX, 0, none⟩) n n, .bool (al || lagR sf wf flush sc wc sp wp q nk), .int .i64 i, .pointer (some ⟨A, 0, none⟩), .pointer (some ⟨SC, 0, none⟩), .pointer (some ⟨WC, 0, none⟩), .pointer (some ⟨SP, 0, none⟩), .pointer (some ⟨WP, 0, none⟩), s21, s22, s23, s24, s25, s26, s27, s28, x29, x30, s31, x32, x33, s34, s35, s36, s37, s38, s39, s40, s41, s42, s43, s44, s45, s46, s47, s48, s49, s50, s51, s52, s53, s54, s55, s56, s57, s58, s59, s60, s61, s62, s63, s64, s65, s66, s67, s68, s69, s70, s71, s72, s73, s74, s75, s76, s77, s78, s79, s80, s81, s82, s83, s84, s85, s86, s87, s88, s89, s90, s91, s92, s93, s94, s95, s96, s97, s98, s99, s100, s101, s102, s103, s104, s105, s106, s107, s108, s109, s110, s111, s112, s113, s114, s115, s116, s117, s118, s119, s120, s121, s122, s123, s124, s125, s126, s127, s128, s129, s130, s131, s132, s133, s134, s135, s136, s137, s138, s139, s140, s141, s142, s143, s144, s145, s146, s147, s148, s149, s150, s151, s152, s153, s154, s155, s156, s157, s158, s159, s160, s161, s162, s163, s164, x165, x166, x167, x168, x169, x170, x171, x172, x173, x174, x175, x176, x177, x178, x179, x180, x181, x182, x183, x184, x185, x186, x187, x188, x189, x190, x191, x192, x193, x194, x195, x196, x197, x198, x199, x200, x201, x202, x203, x204, x205, x206, x207, x208, x209, x210, x211, x212, x213, x214, s215, s216, s217, s218, s219, s220, s221, s222, s223, s224, s225, s226, s227, s228, s229, s230, s231, s232, s233, s234, s235, s236, s237, s238, s239, s240, s241, s242, s243, s244, s245, s246, s247, s248, s249, s250, s251, s252, s253, s254, s255, s256, s257, s258, s259, s260, s261, s262, s263, s264, s265, s266, s267, s268, s269, s270, s271, s272, s273, s274, s275, s276, s277, s278, s279, s280, s281, s282, s283, s284, s285, s286, s287, s288, s289, s290, s291, s292, s293, s294, s295, s296, s297, s298, s299, s300, s301, s302, s303, s304, s305], []⟩ (w.setCell ⟨EX, i, none⟩ (.bool (lagR sf wf flush sc wc sp wp q nk)))) :
    Code.wp Yba.prog tail2 (Exit.inBlock 3 (Exit.then K Q)) ⟨#[s0, s1, .slice kq nk kc, .bool flush, s4, s5, s6, s7, s8, s9, s10, s11, s12, .slice (some ⟨EX, 0, none⟩) n n, .bool al, .int .i64 i, .pointer (some ⟨A, 0, none⟩), .pointer (some ⟨SC, 0, none⟩), .pointer (some ⟨WC, 0, none⟩), .pointer (some ⟨SP, 0, none⟩), .pointer (some ⟨WP, 0, none⟩), s21, s22, s23, s24, s25, s26, s27, s28, s29, s30, s31, s32, s33, s34, s35, s36, s37, s38, s39, s40, s41, s42, s43, s44, s45, s46, s47, s48, s49, s50, s51, s52, s53, s54, s55, s56, s57, s58, s59, s60, s61, s62, s63, s64, s65, s66, s67, s68, s69, s70, s71, s72, s73, s74, s75, s76, s77, s78, s79, s80, s81, s82, s83, s84, s85, s86, s87, s88, s89, s90, s91, s92, s93, s94, s95, s96, s97, s98, s99, s100, s101, s102, s103, s104, s105, s106, s107, s108, s109, s110, s111, s112, s113, s114, s115, s116, s117, s118, s119, s120, s121, s122, s123, s124, s125, s126, s127, s128, s129, s130, s131, s132, s133, s134, s135, s136, s137, s138, s139, s140, s141, s142, s143, s144, s145, s146, s147, s148, s149, s150, s151, s152, s153, s154, s155, s156, s157, s158, s159, s160, s161, s162, s163, s164, s165, s166, s167, s168, s169, s170, s171, s172, s173, s174, s175, s176, s177, s178, s179, s180, s181, s182, s183, s184, s185, s186, s187, s188, s189, s190, s191, s192, s193, s194, s195, s196, s197, s198, s199, s200, s201, s202, s203, s204, s205, s206, s207, s208, s209, s210, s211, s212, s213, s214, s215, s216, s217, s218, s219, s220, s221, s222, s223, s224, s225, s226, s227, s228, s229, s230, s231, s232, s233, s234, s235, s236, s237, s238, s239, s240, s241, s242, s243, s244, s245, s246, s247, s248, s249, s250, s251, s252, s253, s254, s255, s256, s257, s258, s259, s260, s261, s262, s263, s264, s265, s266, s267, s268, s269, s270, s271, s272, s273, s274, s275, s276, s277, s278, s279, s280, s281, s282, s283, s284, s285, s286, s287, s288, s289, s290, s291, s292, s293, s294, s295, s296, s297, s298, s299, s300, s301, s302, s303, s304, s305], []⟩ w := by
  have HK := hideIt hK
  have H0 := hideIt h0
  have H1 := hideIt h1
  have H2 := hideIt h2
  have H3 := hideIt h3
  have H4 := hideIt h4
  have HQ := hideIt hq
  have HKQ := hideIt hkq
  clear hK h0 h1 h2 h3 h4 hq hkq
  conv => arg 2; whnf
  by_cases p1 : 0 < sf
  · have HL := hideIt (show lagR sf wf flush sc wc sp wp q nk = true by simp [lagR, p1])
    go_wp2_with fail
    have z := HK.out; rw [HL.out, Bool.or_true] at z; exact z _ _ _ _ _ _ _ _ _ _ _ _ _ _ _ _ _ _ _ _ _ _ _ _ _ _ _ _ _ _ _ _ _ _ _ _ _ _ _ _ _ _ _ _ _ _ _ _ _ _ _ _ _ _
  · by_cases p2 : 0 < wf
    · have HL := hideIt (show lagR sf wf flush sc wc sp wp q nk = true by simp [lagR, p2])
      go_wp2_with fail
      have z := HK.out; rw [HL.out, Bool.or_true] at z; exact z _ _ _ _ _ _ _ _ _ _ _ _ _ _ _ _ _ _ _ _ _ _ _ _ _ _ _ _ _ _ _ _ _ _ _ _ _ _ _ _ _ _ _ _ _ _ _ _ _ _ _ _ _ _
    · cases flush with
      | true =>
        have HL := hideIt (show lagR sf wf true sc wc sp wp q nk = anyTo (fun k => sp k || wp k) 4 by simp [lagR, p1, p2])
        go_wp2_with fail
        refine flushB SP WP sp wp w H3.out H4.out _ _ _ _ _ _ _ _ _ _ _ _ _ _ _ _ _ _ _ _ _ _ _ _ _ _ _ _ _ _ _ _ _ _ _ _ _ _ _ _ _ _ _ _ _ _ _ _ _ _ _ _ _ _ _ _ _ _ _ _ _ _ _ _ _ _ _ _ _ _ _ _ _ _ _ _ _ _ _ _ _ _ _ _ _ _ _ _ _ _ _ _ _ _ _ _ _ _ _ _ _ _ _ _ _ _ _ _ _ _ _ _ _ _ _ _ _ _ _ _ _ _ _ _ _ _ _ _ _ _ _ _ _ _ _ _ _ _ _ _ _ _ _ _ _ _ _ _ _ _ _ _ _ _ _ _ _ _ _ _ _ _ _ _ _ _ _ _ _ _ _ _ _ _ _ _ _ _ _ _ _ _ _ _ _ _ _ _ _ _ _ _ _ _ _ _ _ _ _ _ _ _ _ _ _ _ _ _ _ _ _ _ _ _ _ _ _ _ _ _ _ _ _ _ _ _ _ _ _ _ _ _ _ _ _ _ _ _ _ _ _ _ _ _ _ _ _ _ _ _ _ _ _ _ _ _ _ _ _ _ _ _ _ _ _ _ _ _ _ _ _ _ _ _ _ _ _ _ _ _ _ _ _ _ _ _ _ _ _ _ _ _ _ _ _ _ _ _ _ _ _ _ _ _ ?_
        intro x174 x175 x176 x177 x178 x179 x180 x181 x182 x183 x184 x185
        cases el : anyTo (fun k => sp k || wp k) 4 with
        | true =>
          have EL := hideIt el
          clear el
          go_wp2_with fail
          have z := HK.out; rw [HL.out, EL.out, Bool.or_true] at z; exact z _ _ _ _ _ _ _ _ _ _ _ _ _ _ _ _ _ _ _ _ _ _ _ _ _ _ _ _ _ _ _ _ _ _ _ _ _ _ _ _ _ _ _ _ _ _ _ _ _ _ _ _ _ _
        | false =>
          have EL := hideIt el
          clear el
          go_wp2_with fail
          have z := HK.out; rw [HL.out, EL.out, Bool.or_false] at z; exact z _ _ _ _ _ _ _ _ _ _ _ _ _ _ _ _ _ _ _ _ _ _ _ _ _ _ _ _ _ _ _ _ _ _ _ _ _ _ _ _ _ _ _ _ _ _ _ _ _ _ _ _ _ _
      | false =>
        have HL := hideIt (show lagR sf wf false sc wc sp wp q nk = anyTo (fun j => keyLag sc wc (q j)) nk by simp [lagR, p1, p2])
        go_wp2_with fail
        refine keysA SC WC kb ko nk kc kq sc wc q w hk HQ.out HKQ.out H0.out H1.out H2.out _ _ _ _ _ _ _ _ _ _ _ _ _ _ _ _ _ _ _ _ _ _ _ _ _ _ _ _ _ _ _ _ _ _ _ _ _ _ _ _ _ _ _ _ _ _ _ _ _ _ _ _ _ _ _ _ _ _ _ _ _ _ _ _ _ _ _ _ _ _ _ _ _ _ _ _ _ _ _ _ _ _ _ _ _ _ _ _ _ _ _ _ _ _ _ _ _ _ _ _ _ _ _ _ _ _ _ _ _ _ _ _ _ _ _ _ _ _ _ _ _ _ _ _ _ _ _ _ _ _ _ _ _ _ _ _ _ _ _ _ _ _ _ _ _ _ _ _ _ _ _ _ _ _ _ _ _ _ _ _ _ _ _ _ _ _ _ _ _ _ _ _ _ _ _ _ _ _ _ _ _ _ _ _ _ _ _ _ _ _ _ _ _ _ _ _ _ _ _ _ _ _ _ _ _ _ _ _ _ _ _ _ _ _ _ _ _ _ _ _ _ _ _ _ _ _ _ _ _ _ _ _ _ _ _ _ _ _ _ _ _ _ _ _ _ _ _ _ _ _ _ _ _ _ _ _ _ _ _ _ _ _ _ _ _ _ _ _ _ _ _ _ _ _ _ _ _ _ _ _ _ _ _ _ _ _ _ _ _ _ _ _ _ _ _ _ _ _ _ _ _ _ ?_
        intro x32 x33 x189 x190 x191 x192 x193 x194 x195 x196 x197 x198 x199 x200 x201 x202 x203 x204 x205 x206 x207 x208 x209
        cases el : anyTo (fun j => keyLag sc wc (q j)) nk with
        | true =>
          have EL := hideIt el
          clear el
          go_wp2_with fail
          have z := HK.out; rw [HL.out, EL.out, Bool.or_true] at z; exact z _ _ _ _ _ _ _ _ _ _ _ _ _ _ _ _ _ _ _ _ _ _ _ _ _ _ _ _ _ _ _ _ _ _ _ _ _ _ _ _ _ _ _ _ _ _ _ _ _ _ _ _ _ _
        | false =>
          have EL := hideIt el
          clear el
          go_wp2_with fail
          have z := HK.out; rw [HL.out, EL.out, Bool.or_false] at z; exact z _ _ _ _ _ _ _ _ _ _ _ _ _ _ _ _ _ _ _ _ _ _ _ _ _ _ _ _ _ _ _ _ _ _ _ _ _ _ _ _ _ _ _ _ _ _ _ _ _ _ _ _ _ _
end Go.Proofs.Ybulkasdy
