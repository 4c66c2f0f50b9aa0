/- From the context to the end (regions 65 to 81). -/
import Derived.Test.YbulkasdyAft
namespace Go.Proofs.Ybulkasdy
open Go.RowKit Go.Maps Go.MuLone

noncomputable def aft64 : Code := (Yba.f3.body.bind (findAft 64)).getD .skip

/-- What stands before the close. -/
structure PreAt (w : World) (L MB EX n xb dc ab nk g G : Nat) (q : Nat → Int) (ans : Bool) (y : Int) (f : Nat → Bool) (sf wf : Nat → Int) (sc wc : Nat → Nat → Int) (sp wp : Nat → Nat → Bool) : Prop where
  lags : w.cell? ⟨L, 0, none⟩ = some (.int .i32 y)
  mu : w.cell? ⟨L, 1, none⟩ = some (.int .i32 0)
  mem : w.cell? ⟨L, 3, none⟩ = some (.slice (some ⟨MB, 0, none⟩) n n)
  next : w.cell? ⟨L, 4, none⟩ = some (.chan none)
  fL : ∀ k, w.frozen? ⟨L, k, none⟩ = false
  rows : ∀ j, j < n → MemAt w MB (4 * j) (sf j) (wf j) (sc j) (wc j) (sp j) (wp j)
  strs : IsStrs w (.slice (some ⟨G, 0, none⟩) nk nk) nk (fun k => tbl (q k))
  done : w.cell? ⟨xb, 1, none⟩ = some (.chan (some dc))
  err : w.cell? ⟨xb, 2, none⟩ = some (.iface 81 (.pointer (some ⟨g, 0, none⟩)))
  chan : w.heap[dc]? = some (.chan 0 #[] false 0 0 false)
  an : w.cell? ⟨ab, 0, none⟩ = some (.bool ans)
  exs : ∀ k, k < n → w.cell? ⟨EX, k, none⟩ = some (.bool (f k))
  le : n ≤ 256
  MBlt : MB < w.heap.size
  EXlt : EX < w.heap.size
  by0 : -128 ≤ y ∧ y ≤ 127
  ne : L ≠ MB ∧ L ≠ xb ∧ L ≠ ab ∧ L ≠ EX ∧ MB ≠ dc ∧ EX ≠ dc

theorem closed_kx {w : World} {dc : Nat} (o : Obj) : Kx (fun b => b = dc) w { w with heap := w.heap.setIfInBounds dc o } :=
  ⟨rfl, rfl, rfl, by simp, fun b _ hb => by simp [Array.getElem?_setIfInBounds]; intro e; exact absurd e.symm hb⟩

set_option maxHeartbeats 8000000 in
set_option maxRecDepth 1000000 in
theorem fin1 (L MB EX n xb dc ab nk g G : Nat) (q : Nat → Int) (flush ans : Bool) (y : Int) (f : Nat → Bool) (sf wf : Nat → Int) (sc wc : Nat → Nat → Int) (sp wp : Nat → Nat → Bool) (w : World)
    (hf : ∀ j, j < n → f j = lagV (sf j) (wf j) flush (sc j) (wc j) (sp j) (wp j) q nk) (h : PreAt w L MB EX n xb dc ab nk g G q ans y f sf wf sc wc sp wp)
    (Q : Exit → Act → World → Prop) (s0 s2 s4 s5 s6 s7 s8 s11 s15 s16 s17 s18 s19 s20 s21 s22 s23 s24 s25 s26 s27 s28 s29 s30 s31 s32 s33 s35 s36 s38 s39 s40 s41 s42 s43 s44 s45 s46 s47 s48 s49 s50 s51 s52 s53 s54 s55 s56 s57 s58 s59 s60 s61 s62 s63 s64 s65 s66 s67 s68 s69 s70 s71 s72 s73 s74 s75 s76 s77 s78 s79 s80 s81 s82 s83 s84 s85 s86 s87 s88 s89 s90 s91 s92 s93 s94 s95 s96 s97 s98 s99 s100 s101 s102 s103 s104 s105 s106 s107 s108 s109 s110 s111 s112 s113 s114 s115 s116 s117 s118 s119 s120 s121 s122 s123 s124 s125 s126 s127 s128 s129 s130 s131 s132 s133 s134 s135 s136 s137 s138 s139 s140 s141 s142 s143 s144 s145 s146 s147 s148 s149 s150 s151 s152 s153 s154 s155 s156 s157 s158 s159 s160 s161 s162 s163 s164 s165 s166 s167 s168 s169 s170 s171 s172 s173 s174 s175 s176 s177 s178 s179 s180 s181 s182 s183 s184 s185 s186 s187 s188 s189 s190 s191 s192 s193 s194 s195 s196 s197 s198 s199 s200 s201 s202 s203 s204 s205 s206 s207 s208 s209 s210 s211 s212 s213 s214 s215 s216 s217 s218 s219 s220 s221 s222 s223 s224 s225 s226 s227 s228 s229 s230 s231 s232 s233 s234 s235 s236 s237 s238 s239 s240 s241 s242 s243 s244 s245 s246 s247 s248 s249 s250 s251 s252 s253 s254 s255 s256 s257 s258 s259 s260 s261 s262 s263 s264 s265 s266 s267 s268 s269 s270 s271 s272 s273 s274 s275 s276 s277 s278 s279 s280 s281 s282 s283 s284 s285 s286 s287 s288 s289 s290 s291 s292 s293 s294 s295 s296 s297 s298 s299 s300 s301 s302 s303 s304 s305 : Value)
    (hR : ∀ (x38 x39 x40 x41 x42 x236 x237 x238 x239 x240 x241 x242 x243 x244 x245 x246 x247 x248 x249 x250 x251 x252 x253 x254 x255 x256 x257 x258 x259 x260 x261 x262 x263 x264 x265 x266 x267 x268 x269 x270 x271 x272 x273 x274 x275 x276 x277 x278 x279 x280 x281 x282 x283 x284 x285 x286 x287 x288 x289 x290 x291 x292 x293 x294 x295 x296 x297 x298 x299 x300 x301 x302 x303 x304 x305 : Value) (w' : World), Kx (fun b => b = L ∨ b = dc) w w' → Q .ret ⟨#[s0, .int .i8 y, s2, .bool flush, s4, s5, s6, s7, s8, .pointer (some ⟨ab, 0, none⟩), .bool true, s11, .pointer (some ⟨L, 0, none⟩), .slice (some ⟨EX, 0, none⟩) n n, .bool (anyTo f n), s15, s16, s17, s18, s19, s20, s21, s22, s23, s24, s25, s26, s27, s28, s29, s30, s31, s32, s33, .slice (some ⟨G, 0, none⟩) nk nk, s35, s36, .pointer (some ⟨xb, 0, none⟩), x38, x39, x40, x41, x42, s43, s44, s45, s46, s47, s48, s49, s50, s51, s52, s53, s54, s55, s56, s57, s58, s59, s60, s61, s62, s63, s64, s65, s66, s67, s68, s69, s70, s71, s72, s73, s74, s75, s76, s77, s78, s79, s80, s81, s82, s83, s84, s85, s86, s87, s88, s89, s90, s91, s92, s93, s94, s95, s96, s97, s98, s99, s100, s101, s102, s103, s104, s105, s106, s107, s108, s109, s110, s111, s112, s113, s114, s115, s116, s117, s118, s119, s120, s121, s122, s123, s124, s125, s126, s127, s128, s129, s130, s131, s132, s133, s134, s135, s136, s137, s138, s139, s140, s141, s142, s143, s144, s145, s146, s147, s148, s149, s150, s151, s152, s153, s154, s155, s156, s157, s158, s159, s160, s161, s162, s163, s164, s165, s166, s167, s168, s169, s170, s171, s172, s173, s174, s175, s176, s177, s178, s179, s180, s181, s182, s183, s184, s185, s186, s187, s188, s189, s190, s191, s192, s193, s194, s195, s196, s197, s198, s199, s200, s201, s202, s203, s204, s205, s206, s207, s208, s209, s210, s211, s212, s213, s214, s215, s216, s217, s218, s219, s220, s221, s222, s223, s224, s225, s226, s227, s228, s229, s230, s231, s232, s233, s234, s235, x236, x237, x238, x239, x240, x241, x242, x243, x244, x245, x246, x247, x248, x249, x250, x251, x252, x253, x254, x255, x256, x257, x258, x259, x260, x261, x262, x263, x264, x265, x266, x267, x268, x269, x270, x271, x272, x273, x274, x275, x276, x277, x278, x279, x280, x281, x282, x283, x284, x285, x286, x287, x288, x289, x290, x291, x292, x293, x294, x295, x296, x297, x298, x299, x300, x301, x302, x303, x304, x305], []⟩ w') :
    Code.wp Yba.prog aft64 Q ⟨#[s0, .int .i8 y, s2, .bool flush, s4, s5, s6, s7, s8, .pointer (some ⟨ab, 0, none⟩), .bool false, s11, .pointer (some ⟨L, 0, none⟩), .slice (some ⟨EX, 0, none⟩) n n, .bool (anyTo f n), s15, s16, s17, s18, s19, s20, s21, s22, s23, s24, s25, s26, s27, s28, s29, s30, s31, s32, s33, .slice (some ⟨G, 0, none⟩) nk nk, s35, s36, .pointer (some ⟨xb, 0, none⟩), s38, s39, s40, s41, s42, s43, s44, s45, s46, s47, s48, s49, s50, s51, s52, s53, s54, s55, s56, s57, s58, s59, s60, s61, s62, s63, s64, s65, s66, s67, s68, s69, s70, s71, s72, s73, s74, s75, s76, s77, s78, s79, s80, s81, s82, s83, s84, s85, s86, s87, s88, s89, s90, s91, s92, s93, s94, s95, s96, s97, s98, s99, s100, s101, s102, s103, s104, s105, s106, s107, s108, s109, s110, s111, s112, s113, s114, s115, s116, s117, s118, s119, s120, s121, s122, s123, s124, s125, s126, s127, s128, s129, s130, s131, s132, s133, s134, s135, s136, s137, s138, s139, s140, s141, s142, s143, s144, s145, s146, s147, s148, s149, s150, s151, s152, s153, s154, s155, s156, s157, s158, s159, s160, s161, s162, s163, s164, s165, s166, s167, s168, s169, s170, s171, s172, s173, s174, s175, s176, s177, s178, s179, s180, s181, s182, s183, s184, s185, s186, s187, s188, s189, s190, s191, s192, s193, s194, s195, s196, s197, s198, s199, s200, s201, s202, s203, s204, s205, s206, s207, s208, s209, s210, s211, s212, s213, s214, s215, s216, s217, s218, s219, s220, s221, s222, s223, s224, s225, s226, s227, s228, s229, s230, s231, s232, s233, s234, s235, s236, s237, s238, s239, s240, s241, s242, s243, s244, s245, s246, s247, s248, s249, s250, s251, s252, s253, s254, s255, s256, s257, s258, s259, s260, s261, s262, s263, s264, s265, s266, s267, s268, s269, s270, s271, s272, s273, s274, s275, s276, s277, s278, s279, s280, s281, s282, s283, s284, s285, s286, s287, s288, s289, s290, s291, s292, s293, s294, s295, s296, s297, s298, s299, s300, s301, s302, s303, s304, s305], []⟩ w := by
  have hmf : ∀ (fn : Fn) (first cap : Array Value) (w : World), (Instr.makeFunc fn first cap).run Yba.prog w = .ok (.func fn first cap) w := fun _ _ _ _ => rfl
  obtain ⟨w1, hw1⟩ : ∃ w1 : World, w1 = { w with heap := w.heap.setIfInBounds dc (.chan 0 #[] true 0 0 false) } := ⟨_, rfl⟩
  have hcl : ∀ ats ty, (Builtin.close_ ats ty #[.chan (some dc)]).run Yba.prog w = .ok (.tuple #[]) w1 := fun ats ty => by rw [hw1]; exact run_close_open ats ty h.chan
  have k1 : Kx (fun b => b = dc) w w1 := by rw [hw1]; exact closed_kx _
  have s1 : w1.heap.size = w.heap.size := by rw [hw1]; simp
  have ldc : dc < w.heap.size := (Array.getElem?_eq_some_iff.1 h.chan).1
  have h1 : w1.heap[dc]? = some (.chan 0 #[] true 0 0 false) := by rw [hw1]; simp [ldc]
  have hdone := h.done
  have HH := hideIt h
  have HF := hideIt hf
  have HR := hideIt hR
  have H1 := hideIt (And.intro k1 (And.intro s1 (And.intro ldc h1)))
  clear h hf hR hw1 k1 s1 ldc h1
  conv => arg 2; whnf
  go_wp2_with fail
  rename_i K1 hK1 K2 hK2
  have HK1 := hideIt hK1
  clear hK1
  obtain ⟨k1, s1, ldc, h1⟩ := H1.out
  obtain ⟨w2, hw2⟩ : ∃ w2, w2 = (w1.alloc (.cells #[.int .i64 0] 3)).alloc (.cells #[.slice none 0 0] 47) := ⟨_, rfl⟩
  rw [← hw2]
  have k2 : Kx (fun b => b = dc) w w2 := by rw [hw2]; exact (k1.alloc _).alloc _
  have r0 : w2.heap[w1.heap.size]? = some (.cells #[.int .i64 0] 3 (0, 0)) := by rw [hw2, get_alloc, get_alloc, World.size_alloc, if_neg (by omega), if_pos rfl]
  have r1 : w2.heap[w1.heap.size + 1]? = some (.cells #[.slice none 0 0] 47 (0, 0)) := by rw [hw2, get_alloc, World.size_alloc, if_pos rfl]
  have r2 : w2.heap[dc]? = some (.chan 0 #[] true 0 0 false) := by rw [hw2, get_alloc, get_alloc, World.size_alloc, if_neg (by omega), if_neg (by omega)]; exact h1
  have sz2 : w2.heap.size = w.heap.size + 2 := by rw [hw2, World.size_alloc, World.size_alloc, s1]
  have P := HH.out
  have nd : ∀ {b k : Nat} {v : Value}, w.cell? ⟨b, k, none⟩ = some v → ¬ b = dc := fun h e => by subst e; simp [World.cell?, P.chan] at h
  have cc : ∀ {b k : Nat} {v : Value}, w.cell? ⟨b, k, none⟩ = some v → w2.cell? ⟨b, k, none⟩ = some v := fun h => by rw [k2.cell (World.block_lt_of_cell? w _ h) (nd h)]; exact h
  have lt : ∀ {b k : Nat} {v : Value}, w.cell? ⟨b, k, none⟩ = some v → b < w.heap.size := fun h => World.block_lt_of_cell? w _ h
  have lL := lt P.lags
  have lx := lt P.err
  have la := lt P.an
  have ne := P.ne
  have hW : WtAt L MB n n xb dc w1.heap.size (w1.heap.size + 1) ab nk (.slice (some ⟨G, 0, none⟩) nk nk) (.iface 81 (.pointer (some ⟨g, 0, none⟩))) q ans y sf wf sc wc sp wp w2 :=
    { lags := cc P.lags, mu := cc P.mu, mem := cc P.mem, next := cc P.next
      fL := fun k => (k2.frozen (a := ⟨L, k, none⟩) lL (nd P.lags)).trans (P.fL k)
      rows := fun j hj => (P.rows j hj).kx k2 ne.2.2.2.2.1 (fun b es cl hb e => by subst e; rw [P.chan] at hb; cases hb)
      strs := P.strs.kx k2 (fun b s hb => nd hb)
      done := cc P.done, err := cc P.err, chan := r2
      cal := by rw [cell_of_row _ _ _ _ _ _ r0]; rfl
      fcal := by simp [World.frozen?, r0]
      seen := ⟨_, by rw [cell_of_row _ _ _ _ _ _ r1]; rfl⟩
      fseen := by simp [World.frozen?, r1]
      an := cc P.an, le := P.le, MBlt := by have := P.MBlt; omega
      apart := ⟨ne.1, ne.2.1, by omega, by omega, ne.2.2.1, by omega, by omega, by omega, by omega, by omega⟩ }
  refine (wait10 L MB n n xb dc w1.heap.size (w1.heap.size + 1) ab nk _ _ q flush ans y sf wf sc wc sp wp f w2 HF.out hW).mono ?_
  rintro e w3 ⟨v, er, rfl, hE⟩
  obtain ⟨e0, e1, e2, e3, e4, e5, e6⟩ := hE
  have k3 : Kx (fun b => b = L ∨ b = dc) w w3 := (k2.mono (fun _ _ h => .inr h)).trans e0 (fun b hb h => by omega)
  have cd : ∀ {b k : Nat} {v : Value}, w.cell? ⟨b, k, none⟩ = some v → b ≠ L → w3.cell? ⟨b, k, none⟩ = some v := fun h hb => by
    rw [k3.cell (World.block_lt_of_cell? w _ h) (fun h' => h'.elim hb (nd h))]; exact h
  have hA : AftAt w3 L EX n xb w1.heap.size (w1.heap.size + 1) ab g ans y f v er :=
    { lags := e1, mu := e2, fz := e3, err := e4, an := cd P.an (fun e => ne.2.2.1 e.symm), exs := fun k hk => cd (P.exs k hk) (fun e => ne.2.2.2.1 e.symm), le := P.le, a := e5, b := e6, by0 := P.by0
      ne := ⟨ne.2.1, ne.2.2.1, by omega, by omega, ne.2.2.2.1⟩ }
  have HA := hideIt hA
  have HK3 := hideIt k3
  clear hA k3 e0 e1 e2 e3 e4 e5 e6 cd cc nd lt hW k2 r0 r1 r2 P k1 h1 hcl hdone hw2 s1 sz2
  go_wp2_with fail
  refine HK1.out _ _ ?_
  refine fin2 L EX n xb w1.heap.size (w1.heap.size + 1) ab g ans y f v er w3 HA.out Q _ _ _ _ _ _ _ _ _ _ _ _ _ _ _ _ _ _ _ _ _ _ _ _ _ _ _ _ _ _ _ _ _ _ _ _ _ _ _ _ _ _ _ _ _ _ _ _ _ _ _ _ _ _ _ _ _ _ _ _ _ _ _ _ _ _ _ _ _ _ _ _ _ _ _ _ _ _ _ _ _ _ _ _ _ _ _ _ _ _ _ _ _ _ _ _ _ _ _ _ _ _ _ _ _ _ _ _ _ _ _ _ _ _ _ _ _ _ _ _ _ _ _ _ _ _ _ _ _ _ _ _ _ _ _ _ _ _ _ _ _ _ _ _ _ _ _ _ _ _ _ _ _ _ _ _ _ _ _ _ _ _ _ _ _ _ _ _ _ _ _ _ _ _ _ _ _ _ _ _ _ _ _ _ _ _ _ _ _ _ _ _ _ _ _ _ _ _ _ _ _ _ _ _ _ _ _ _ _ _ _ _ _ _ _ _ _ _ _ _ _ _ _ _ _ _ _ _ _ _ _ _ _ _ _ _ _ _ _ _ _ _ _ _ _ _ _ _ _ _ _ _ _ _ _ _ _ _ _ _ _ _ _ _ _ _ _ _ _ _ _ _ _ _ _ _ _ _ _ _ _ _ _ _ _ _ _ _ _ _ _ _ _ _ _ ?_
  intro x251 x252 x253 x254 x255 x256 x257 x258 x259 x260 x261 x262 x263 x264 x265 x266 x267 x268 x269 x270 x271 x272 x273 x274 x275 x276 x277 x278 x279 x280 x281 x282 x283 x284 x285 x286 x287 x288 x289 x290 x291 x292 x293 x294 x295 x296 x297 x298 x299 x300 x301 x302 x303 x304 x305 w4 k4
  exact HR.out _ _ _ _ _ _ _ _ _ _ _ _ _ _ _ _ _ _ _ _ _ _ _ _ _ _ _ _ _ _ _ _ _ _ _ _ _ _ _ _ _ _ _ _ _ _ _ _ _ _ _ _ _ _ _ _ _ _ _ _ _ _ _ _ _ _ _ _ _ _ _ _ _ _ _ _ (HK3.out.trans k4 (fun _ _ h => .inl h))
end Go.Proofs.Ybulkasdy
