/- The law's walk (function 3). -/
import Derived.Test.YbulkasdyPre
namespace Go.Proofs.Ybulkasdy
open Go.RowKit Go.Maps Go.MuLone

/-- The arguments' cells. -/
structure Inp (w : World) (mb mo kb ko nk n : Nat) (mq kq : Option Addr) (g : Given) (q : Nat → Int) : Prop where
  hmq : 0 < n → mq = some ⟨mb, mo, none⟩
  hkq : 0 < nk → kq = some ⟨kb, ko, none⟩
  m0 : ∀ i, i < n → w.cell? ⟨mb, mo + i * 4, none⟩ = some (.int .i8 (g.sf i))
  m1 : ∀ i, i < n → w.cell? ⟨mb, mo + i * 4 + 1, none⟩ = some (.int .i8 (g.wf i))
  m2 : ∀ i, i < n → w.cell? ⟨mb, mo + i * 4 + 2, none⟩ = some (.slice (g.sq i) (g.SN i) (g.scap i))
  m3 : ∀ i, i < n → w.cell? ⟨mb, mo + i * 4 + 3, none⟩ = some (.slice (g.wq i) (g.WN i) (g.wcap i))
  hsq : ∀ i, i < n → 0 < g.SN i → g.sq i = some ⟨g.eb i, g.eo i, none⟩
  hwq : ∀ i, i < n → 0 < g.WN i → g.wq i = some ⟨g.fb i, g.fo i, none⟩
  eK : ∀ i k, 0 ≤ g.EK i k ∧ g.EK i k ≤ 255
  eN : ∀ i k, -128 ≤ g.EN i k ∧ g.EN i k ≤ 127
  fK : ∀ i k, 0 ≤ g.FK i k ∧ g.FK i k ≤ 255
  fN : ∀ i k, -128 ≤ g.FN i k ∧ g.FN i k ≤ 127
  bq : ∀ k, 0 ≤ q k ∧ q k ≤ 255
  e0 : ∀ i, i < n → ∀ k, k < g.SN i → w.cell? ⟨g.eb i, g.eo i + k * 2, none⟩ = some (.int .u8 (g.EK i k))
  e1 : ∀ i, i < n → ∀ k, k < g.SN i → w.cell? ⟨g.eb i, g.eo i + k * 2 + 1, none⟩ = some (.int .i8 (g.EN i k))
  f0 : ∀ i, i < n → ∀ k, k < g.WN i → w.cell? ⟨g.fb i, g.fo i + k * 2, none⟩ = some (.int .u8 (g.FK i k))
  f1 : ∀ i, i < n → ∀ k, k < g.WN i → w.cell? ⟨g.fb i, g.fo i + k * 2 + 1, none⟩ = some (.int .i8 (g.FN i k))
  k0 : ∀ k, k < nk → w.cell? ⟨kb, ko + k, none⟩ = some (.int .u8 (q k))
  bsf : ∀ i, -128 ≤ g.sf i ∧ g.sf i ≤ 127
  bwf : ∀ i, -128 ≤ g.wf i ∧ g.wf i ≤ 127

set_option maxHeartbeats 8000000 in
set_option maxRecDepth 1000000 in
theorem law3 (mb mo kb ko nk kc n mc : Nat) (mq kq : Option Addr) (g : Given) (q : Nat → Int) (y : Int) (flush ans : Bool) (w : World) (hy : -128 ≤ y ∧ y ≤ 127) (h : Inp w mb mo kb ko nk n mq kq g q) :
    Calls Yba.prog 3 #[.slice mq n mc, .int .i8 y, .slice kq nk kc, .bool flush, .bool ans] w fun e w' => e = .returned (.bool true) ∧ Below w.heap.size w w' := by
  have HH := hideIt h
  clear h
  have hwr : IntKind.i32.wrap y = y := by rw [IntKind.wrap_i32]; omega
  go_enter Yba.func3, Yba.ntmps3
  by_cases pn : 256 < n
  · go_wp2_with fail
    go_ret
    exact ⟨rfl, ((Kx.refl (fun _ => False) w).alloc _).below (Nat.le_refl _) (fun _ _ h => h)⟩
  · by_cases pk : 256 < nk
    · go_wp2_with fail
      go_ret
      exact ⟨rfl, ((Kx.refl (fun _ => False) w).alloc _).below (Nat.le_refl _) (fun _ _ h => h)⟩
    · go_wp2_with fail
      have ka : Kx (fun _ => False) w (w.alloc (.cells #[.bool ans] 4)) := (Kx.refl _ w).alloc _
      have ca : ∀ {a : Addr} {v : Value}, w.cell? a = some v → (w.alloc (.cells #[.bool ans] 4)).cell? a = some v := fun h => cell_alloc_some h _
      refine loop0 mb mo n mc mq g.SN g.WN g.scap g.wcap g.sq g.wq _ (by omega) HH.out.hmq (fun i hi => ca (HH.out.m2 i hi)) (fun i hi => ca (HH.out.m3 i hi)) _ _ _ _ _ _ _ _ _ _ _ _ _ _ _ _ _ _ _ _ _ _ _ _ _ _ _ _ _ _ _ _ _ _ _ _ _ _ _ _ _ _ _ _ _ _ _ _ _ _ _ _ _ _ _ _ _ _ _ _ _ _ _ _ _ _ _ _ _ _ _ _ _ _ _ _ _ _ _ _ _ _ _ _ _ _ _ _ _ _ _ _ _ _ _ _ _ _ _ _ _ _ _ _ _ _ _ _ _ _ _ _ _ _ _ _ _ _ _ _ _ _ _ _ _ _ _ _ _ _ _ _ _ _ _ _ _ _ _ _ _ _ _ _ _ _ _ _ _ _ _ _ _ _ _ _ _ _ _ _ _ _ _ _ _ _ _ _ _ _ _ _ _ _ _ _ _ _ _ _ _ _ _ _ _ _ _ _ _ _ _ _ _ _ _ _ _ _ _ _ _ _ _ _ _ _ _ _ _ _ _ _ _ _ _ _ _ _ _ _ _ _ _ _ _ _ _ _ _ _ _ _ _ _ _ _ _ _ _ _ _ _ _ _ _ _ _ _ _ _ _ _ _ _ _ _ _ _ _ _ _ _ _ _ _ _ _ _ _ _ _ _ _ _ _ _ _ _ _ _ _ _ _ _ ?_ ?_ _ _ _ _ _ _ _ _ _ _ _ _ _ _ _ _ _ _ _ _
      · intro x11 x54 x55 x56 x57 x58 x59 x60 x61 x62 x63 x64 x65 x66 x67 x68 x69 x70 x71 x72 z
        refine bodyPost_ret (results_tmp rfl _ _ _) rfl ?_
        exact ⟨rfl, ka.below (Nat.le_refl _) (fun _ _ h => h)⟩
      intro hle x11 x54 x55 x56 x57 x58 x59 x60 x61 x62 x63 x64 x65 x66 x67 x68 x69 x70 x71 x72
      obtain ⟨wa, hwa⟩ : ∃ wa, wa = w.alloc (.cells #[.bool ans] 4) := ⟨_, rfl⟩
      rw [← hwa]
      have HLE := hideIt hle
      have HWA := hideIt hwa
      clear hle hwa ka ca
      go_wp2_with fail
      refine (new4 n wa (by omega)).mono ?_
      rintro e wb ⟨rfl, cur, hcs, hwb⟩
      obtain ⟨MB, hMB⟩ : ∃ M, M = wa.heap.size := ⟨_, rfl⟩
      rw [← hMB] at hwb ⊢
      have sa : wa.heap.size = w.heap.size + 1 := by rw [HWA.out, World.size_alloc]
      have ra : wa.heap[w.heap.size]? = some (.cells #[.bool ans] 4 (0, 0)) := by rw [HWA.out, get_alloc, if_pos rfl]
      have ka : Kx (fun _ => False) w wa := by rw [HWA.out]; exact (Kx.refl _ w).alloc _
      have kb1 : Kx (fun _ => False) wa wb := by rw [hwb]; exact ((Kx.refl _ wa).alloc _).alloc _
      have sb1 : wb.heap.size = w.heap.size + 3 := by rw [hwb, World.size_alloc, World.size_alloc, sa]
      have rM : wb.heap[MB]? = some (.cells cur 57 (0, 0)) := by rw [hwb, get_alloc, get_alloc, World.size_alloc, if_neg (by omega), if_pos hMB]
      have rL : wb.heap[MB + 1]? = some (.cells #[.int .i32 0, .int .i32 0, .int .u32 0, .slice (some ⟨MB, 0, none⟩) n n, .chan none] 45 (0, 0)) := by rw [hwb, get_alloc, World.size_alloc, if_pos (by omega)]
      have cL : wb.cell? ⟨MB + 1, 0, none⟩ = some (.int .i32 0) := by rw [cell_of_row _ _ _ _ _ _ rL]; rfl
      have zL : wb.frozen? ⟨MB + 1, 0, none⟩ = false := by simp [World.frozen?, rL]
      have HB := hideIt (And.intro hMB (And.intro sa (And.intro ra (And.intro ka (And.intro kb1 (And.intro sb1 (And.intro rM rL)))))))
      clear hMB sa ra ka kb1 sb1 rM rL hwb
      go_wp2_with fail
      refine (store5 ⟨MB + 1, 0, none⟩ _ y wb cL zL).mono ?_
      rintro e wc ⟨rfl, hwc⟩
      obtain ⟨hMB, sa, ra, ka, kb1, sb1, rM, rL⟩ := HB.out
      have sc1 : wc.heap.size = w.heap.size + 3 := by rw [hwc, World.size_setCell, sb1]
      have rLc : wc.heap[MB + 1]? = some (.cells #[.int .i32 y, .int .i32 0, .int .u32 0, .slice (some ⟨MB, 0, none⟩) n n, .chan none] 45 (0, 0)) := by rw [hwc]; exact heap_setCell_same _ _ _ _ _ _ rL
      have kc1 : Kx (fun b => b = MB + 1) wb wc := by rw [hwc]; exact (Kx.refl (fun b => b = MB + 1) wb).setCell ⟨MB + 1, 0, none⟩ _ (fun _ => rfl)
      obtain ⟨EX, hEX⟩ : ∃ E, E = wc.heap.size := ⟨_, rfl⟩
      obtain ⟨i4, hi4, hz0, hz1, hz2⟩ := info_parts Yba.info4
      have hmk := run_make (P := Yba.prog) wc 47 4 i4 _ Yba.underlying47 hi4 hz0 .i64 .i64 n n (by omega) (by omega) (by rw [hz2]; omega) (by omega)
      rw [hz1, Int.toNat_natCast, ← hEX] at hmk
      obtain ⟨ecur, hec⟩ : ∃ E, E = madeCells (Value.bool false).cells (n * 1) := ⟨_, rfl⟩
      have hes : ecur.size = n := by rw [hec, size_madeCells, Nat.mul_one]
      rw [← hec] at hmk
      obtain ⟨wd, hwd⟩ : ∃ wd, wd = wc.alloc (.cells ecur 4) := ⟨_, rfl⟩
      rw [← hwd] at hmk
      have kd1 : Kx (fun _ => False) wc wd := by rw [hwd]; exact (Kx.refl _ wc).alloc _
      have rE : wd.heap[EX]? = some (.cells ecur 4 (0, 0)) := by rw [hwd, get_alloc, if_pos hEX]
      have sd : wd.heap.size = w.heap.size + 4 := by rw [hwd, World.size_alloc, sc1]
      have eM : MB = w.heap.size + 1 := hMB.trans sa
      have eE : EX = w.heap.size + 3 := hEX.trans sc1
      have rMd : wd.heap[MB]? = some (.cells cur 57 (0, 0)) := (kd1.block MB (by omega) (fun h => h)).trans ((kc1.block MB (by omega) (by omega)).trans rM)
      have rLd : wd.heap[MB + 1]? = some (.cells #[.int .i32 y, .int .i32 0, .int .u32 0, .slice (some ⟨MB, 0, none⟩) n n, .chan none] 45 (0, 0)) := (kd1.block (MB + 1) (by omega) (fun h => h)).trans rLc
      have rAd : wd.heap[w.heap.size]? = some (.cells #[.bool ans] 4 (0, 0)) := (kd1.block _ (by omega) (fun h => h)).trans ((kc1.block _ (by omega) (by omega)).trans ((kb1.block _ (by omega) (fun h => h)).trans ra))
      have kd : Kx (fun _ => False) w wd := ((ka.trans kb1 (fun _ _ h => h)).trans kc1 (fun b hb h => by omega)).trans kd1 (fun _ _ h => h)
      have HD := hideIt (And.intro eM (And.intro eE (And.intro rMd (And.intro rLd (And.intro rAd (And.intro rE (And.intro sd kd)))))))
      have HCS := hideIt (And.intro hcs hes)
      clear hMB sa ra ka kb1 sb1 rM rL sc1 rLc kc1 hEX hec hwd hwc kd1 rE sd eM eE rMd rLd rAd kd cL zL hcs hes
      go_wp2_with fail
      obtain ⟨eM, eE, rMd, rLd, rAd, rE, sd, kd⟩ := HD.out
      have cd : ∀ {a : Addr} {v : Value}, w.cell? a = some v → wd.cell? a = some v := fun h => by rw [kd.cell (World.block_lt_of_cell? w _ h) (fun h => h)]; exact h
      have lt : ∀ {b k : Nat} {v : Value}, w.cell? ⟨b, k, none⟩ = some v → b < w.heap.size := fun h => World.block_lt_of_cell? w _ h
      have hA : ∀ i, i < n → RoundAt wd mb mo kb ko nk (MB + 1) MB n EX i (g.SN i) (g.WN i) (g.eb i) (g.eo i) (g.fb i) (g.fo i) kq (g.sq i) (g.wq i) (g.scap i) (g.wcap i) (g.sf i) (g.wf i) (g.EK i) (g.EN i) (g.FK i) (g.FN i) q := fun i hi =>
        { m0 := cd (HH.out.m0 i hi), m1 := cd (HH.out.m1 i hi), m2 := cd (HH.out.m2 i hi), m3 := cd (HH.out.m3 i hi), sN := (HLE.out i hi).1, wN := (HLE.out i hi).2, kN := by omega
          hsq := HH.out.hsq i hi, hwq := HH.out.hwq i hi, hkq := HH.out.hkq, eK := HH.out.eK i, eN := HH.out.eN i, fK := HH.out.fK i, fN := HH.out.fN i, bq := HH.out.bq
          e0 := fun k hk => cd (HH.out.e0 i hi k hk), e1 := fun k hk => cd (HH.out.e1 i hi k hk), f0 := fun k hk => cd (HH.out.f0 i hi k hk), f1 := fun k hk => cd (HH.out.f1 i hi k hk), k0 := fun k hk => cd (HH.out.k0 k hk)
          bsf := HH.out.bsf i, bwf := HH.out.bwf i, mem := by rw [cell_of_row _ _ _ _ _ _ rLd]; rfl
          row := ⟨cur, rMd, HCS.out.1⟩, erow := ⟨ecur, rE, HCS.out.2⟩, ne := ⟨by omega, by omega, by omega⟩, knb := fun hp => by have := lt (HH.out.k0 0 hp); omega }
      refine loop2 mb mo kb ko nk kc (MB + 1) MB n mc EX mq kq flush g q wd (by omega) HH.out.hmq hA (fun hp => by have := lt (HH.out.m0 0 hp); omega) (fun hp => by have := lt (HH.out.k0 0 hp); omega) (fun i hi hp => by have := lt (HH.out.e0 i hi 0 hp); omega) (fun i hi hp => by have := lt (HH.out.f0 i hi 0 hp); omega) _ _ _ _ _ _ _ _ _ _ _ _ _ _ _ _ _ _ _ _ _ _ _ _ _ _ _ _ _ _ _ _ _ _ _ _ _ _ _ _ _ _ _ _ _ _ _ _ _ _ _ _ _ _ _ _ _ _ _ _ _ _ _ _ _ _ _ _ _ _ _ _ _ _ _ _ _ _ _ _ _ _ _ _ _ _ _ _ _ _ _ _ _ _ _ _ _ _ _ _ _ _ _ _ _ _ _ _ _ _ _ _ _ _ _ _ _ _ _ _ _ _ _ _ _ _ _ _ _ _ _ _ _ _ _ _ _ _ _ _ _ _ _ _ _ _ _ _ _ _ _ _ _ _ _ _ ?_ _ _ _ _ _ _ _ _ _ _ _ _ _ _ _ _ _ _ _ _ _ _ _ _ _ _ _ _ _ _ _ _ _ _ _ _ _ _ _ _ _ _ _ _ _ _ _ _ _ _ _ _ _ _ _ _ _ _ _ _ _ _ _ _ _ _ _ _ _ _ _ _ _ _ _ _ _ _ _ _ _ _ _ _ _ _ _ _ _ _ _ _ _ _ _ _ _ _ _ _ _ _ _ _ _ _ _ _ _ _ _ _ _ _ _ _ _ _ _ _ _ _ _ _ _ _ _ _ _ _ _ _ _ _ _ _ _ _ _ _ _ _ _ _
        ⟨Kx.refl _ _, fun j hj => by omega, fun j hj => by omega, ⟨cur, rMd, HCS.out.1⟩, ⟨ecur, rE, HCS.out.2⟩⟩
      intro x15 x16 x17 x18 x19 x20 x21 x22 x24 x25 x27 x28 x29 x30 x32 x33 x88 x89 x90 x91 x92 x93 x94 x95 x96 x97 x98 x99 x100 x101 x102 x103 x104 x105 x106 x107 x108 x109 x110 x111 x112 x113 x114 x115 x116 x117 x118 x119 x120 x121 x122 x123 x124 x125 x126 x127 x128 x129 x130 x131 x132 x133 x134 x135 x136 x137 x138 x139 x140 x141 x142 x143 x144 x145 x146 x147 x148 x149 x150 x151 x152 x153 x154 x155 x156 x157 x158 x159 x160 x161 x162 x163 x164 x165 x166 x167 x168 x169 x170 x171 x172 x173 x174 x175 x176 x177 x178 x179 x180 x181 x182 x183 x184 x185 x186 x187 x188 x189 x190 x191 x192 x193 x194 x195 x196 x197 x198 x199 x200 x201 x202 x203 x204 x205 x206 x207 x208 x209 x210 x211 x212 x213 x214 x215 we hle
      obtain ⟨G, hG⟩ : ∃ G, G = we.heap.size := ⟨_, rfl⟩
      obtain ⟨i9, hi9, hy0, hy1, hy2⟩ := info_parts Yba.info9
      obtain ⟨wf, hrun, hown, hgr⟩ := run_make_own (P := Yba.prog) we G 58 9 i9 _ 1 Yba.underlying58 hi9 hy0 hy1 .i64 .i64 nk (by rw [hy2]; omega) (by unfold maxLen; omega) (by omega)
      rw [← hG] at hrun hown
      have kf : Kx (fun _ => False) we wf := (Kx.refl _ we).grown hgr (by simp)
      have HE := hideIt (And.intro hle (And.intro hG kf))
      have HOW := hideIt hown
      have HLT := hideIt (fun (b k : Nat) (v : Value) => @lt b k v)
      clear hle hG kf hown hgr hA cd lt eM eE rMd rLd rAd rE sd kd hmk
      go_wp2_with fail
      obtain ⟨hle, hG, kf⟩ := HE.out
      obtain ⟨eM, eE, rMd, rLd, rAd, rE, sd, kd⟩ := HD.out
      have kwf : Kx (fun _ => False) w wf := (kd.trans hle.kx (fun b hb h => by omega)).trans kf (fun _ _ h => h)
      have se := hle.kx.size
      refine loop12 kb ko nk kc G kq q wf (by omega) HH.out.bq HH.out.hkq (fun k hk => by rw [kwf.cell (World.block_lt_of_cell? w _ (HH.out.k0 k hk)) (fun h => h)]; exact HH.out.k0 k hk) (fun hp => by have := HLT.out _ _ _ (HH.out.k0 0 hp); omega) _ _ _ _ _ _ _ _ _ _ _ _ _ _ _ _ _ _ _ _ _ _ _ _ _ _ _ _ _ _ _ _ _ _ _ _ _ _ _ _ _ _ _ _ _ _ _ _ _ _ _ _ _ _ _ _ _ _ _ _ _ _ _ _ _ _ _ _ _ _ _ _ _ _ _ _ _ _ _ _ _ _ _ _ _ _ _ _ _ _ _ _ _ _ _ _ _ _ _ _ _ _ _ _ _ _ _ _ _ _ _ _ _ _ _ _ _ _ _ _ _ _ _ _ _ _ _ _ _ _ _ _ _ _ _ _ _ _ _ _ _ _ _ _ _ _ _ _ _ _ _ _ _ _ _ _ _ _ _ _ _ _ _ _ _ _ _ _ _ _ _ _ _ _ _ _ _ _ _ _ _ _ _ _ _ _ _ _ _ _ _ _ _ _ _ _ _ _ _ _ _ _ _ _ _ _ _ _ _ _ _ _ _ _ _ _ _ _ _ _ _ _ _ _ _ _ _ _ _ _ _ _ _ _ _ _ _ _ _ _ _ _ _ _ _ _ _ _ _ _ _ _ _ _ _ _ _ _ _ _ _ _ _ _ _ _ _ _ _ _ _ _ _ _ _ _ _ _ _ _ _ _ _ _ _ _ _ _ _ _ _ _ _ _ ?_ _ _ _ _ _ _ _ _ _ _ HOW.out
      intro z36 z222 z223 z224 z225 z226 z227 z228 z229 z230 wg kg hst
      have HG := hideIt (And.intro kg hst)
      clear hle hG kf eM eE rMd rLd rAd rE sd kd kwf se kg hst hrun
      go_wp2_with fail
      refine ctxB wg _ _ _ _ _ _ _ _ _ _ _ _ _ _ _ _ _ _ _ _ _ _ _ _ _ _ _ _ _ _ _ _ _ _ _ _ _ _ _ _ _ _ _ _ _ _ _ _ _ _ _ _ _ _ _ _ _ _ _ _ _ _ _ _ _ _ _ _ _ _ _ _ _ _ _ _ _ _ _ _ _ _ _ _ _ _ _ _ _ _ _ _ _ _ _ _ _ _ _ _ _ _ _ _ _ _ _ _ _ _ _ _ _ _ _ _ _ _ _ _ _ _ _ _ _ _ _ _ _ _ _ _ _ _ _ _ _ _ _ _ _ _ _ _ _ _ _ _ _ _ _ _ _ _ _ _ _ _ _ _ _ _ _ _ _ _ _ _ _ _ _ _ _ _ _ _ _ _ _ _ _ _ _ _ _ _ _ _ _ _ _ _ _ _ _ _ _ _ _ _ _ _ _ _ _ _ _ _ _ _ _ _ _ _ _ _ _ _ _ _ _ _ _ _ _ _ _ _ _ _ _ _ _ _ _ _ _ _ _ _ _ _ _ _ _ _ _ _ _ _ _ _ _ _ _ _ _ _ _ _ _ _ _ _ _ _ _ _ _ _ _ _ _ _ _ _ _ _ _ _ _ _ _ _ _ _ _ _ _ _ _ _ _ _ _ _ _ _ _ _ _ _ _ _ _ _ _ _ ?_
      intro x231 x232 x233 x234 x235 xb dc g' wh hc
      refine ‹∀ a w, Code.wp Yba.prog _ _ a w → _› _ _ ?_
      obtain ⟨hle, hG, kf⟩ := HE.out
      obtain ⟨eM, eE, rMd, rLd, rAd, rE, sd, kd⟩ := HD.out
      obtain ⟨kg, hst⟩ := HG.out
      have se := hle.kx.size
      have sf1 := kf.size
      have sg := kg.size
      have c1 := hc.lx
      have c2 := hc.ld
      have keh : Kx (fun _ => False) we wh := (kf.trans kg (fun b hb h => by omega)).trans hc.kx (fun _ _ h => h)
      have kdh : Kx (fun b => b = MB ∨ b = EX) wd wh := hle.kx.trans keh (fun _ _ h => h.elim)
      have rLh := (kdh.block (MB + 1) (by omega) (by omega)).trans rLd
      have rAh := (kdh.block w.heap.size (by omega) (by omega)).trans rAd
      have hP : PreAt wh (MB + 1) MB EX n xb dc w.heap.size nk g' G q ans y (g.lag flush q nk) g.sf g.wf g.sc g.wc g.sp g.wp :=
        { lags := by rw [cell_of_row _ _ _ _ _ _ rLh]; rfl
          mu := by rw [cell_of_row _ _ _ _ _ _ rLh]; rfl
          mem := by rw [cell_of_row _ _ _ _ _ _ rLh]; rfl
          next := by rw [cell_of_row _ _ _ _ _ _ rLh]; rfl
          fL := fun k => by simp [World.frozen?, rLh]
          rows := fun j hj => (hle.rows j hj).kx keh (fun h => h) (fun _ _ _ _ h => h)
          strs := hst.kx hc.kx (fun _ _ _ h => h)
          done := hc.done, err := hc.err, chan := hc.chan
          an := by rw [cell_of_row _ _ _ _ _ _ rAh]; rfl
          exs := fun k hk => by rw [keh.cell (World.block_lt_of_cell? we _ (hle.exs k hk)) (fun h => h)]; exact hle.exs k hk
          le := by omega, MBlt := by have := kdh.size; omega, EXlt := by have := kdh.size; omega, by0 := hy
          ne := ⟨by omega, by omega, by omega, by omega, by omega, by omega⟩ }
      refine fin1 (MB + 1) MB EX n xb dc w.heap.size nk g' G q flush ans y (g.lag flush q nk) g.sf g.wf g.sc g.wc g.sp g.wp wh (fun j hj => lagR_eq _ _ _ _ _ _ _ _ _ (fun k => (HH.out.bq k).1) (cntTo_four _ _ _) (cntTo_four _ _ _) (prsTo_four _ _) (prsTo_four _ _)) hP _ _ _ _ _ _ _ _ _ _ _ _ _ _ _ _ _ _ _ _ _ _ _ _ _ _ _ _ _ _ _ _ _ _ _ _ _ _ _ _ _ _ _ _ _ _ _ _ _ _ _ _ _ _ _ _ _ _ _ _ _ _ _ _ _ _ _ _ _ _ _ _ _ _ _ _ _ _ _ _ _ _ _ _ _ _ _ _ _ _ _ _ _ _ _ _ _ _ _ _ _ _ _ _ _ _ _ _ _ _ _ _ _ _ _ _ _ _ _ _ _ _ _ _ _ _ _ _ _ _ _ _ _ _ _ _ _ _ _ _ _ _ _ _ _ _ _ _ _ _ _ _ _ _ _ _ _ _ _ _ _ _ _ _ _ _ _ _ _ _ _ _ _ _ _ _ _ _ _ _ _ _ _ _ _ _ _ _ _ _ _ _ _ _ _ _ _ _ _ _ _ _ _ _ _ _ _ _ _ _ _ _ _ _ _ _ _ _ _ _ _ _ _ _ _ _ _ _ _ _ _ _ _ _ _ _ _ _ _ _ _ _ _ _ _ _ _ _ _ _ _ _ _ _ _ _ _ _ _ _ _ _ _ _ _ _ _ _ _ _ _ _ _ _ _ _ _ _ _ _ _ _ _ _ _ _ _ _ _ _ _ _ _ _ _ _ _ _ ?_
      intro x38 x39 x40 x41 x42 x236 x237 x238 x239 x240 x241 x242 x243 x244 x245 x246 x247 x248 x249 x250 x251 x252 x253 x254 x255 x256 x257 x258 x259 x260 x261 x262 x263 x264 x265 x266 x267 x268 x269 x270 x271 x272 x273 x274 x275 x276 x277 x278 x279 x280 x281 x282 x283 x284 x285 x286 x287 x288 x289 x290 x291 x292 x293 x294 x295 x296 x297 x298 x299 x300 x301 x302 x303 x304 x305 w' k'
      refine bodyPost_ret (results_tmp rfl _ _ _) rfl ?_
      have kk : Kx (fun _ => False) w w' := ((kd.trans hle.kx (fun b hb h => by omega)).trans keh (fun _ _ h => h)).trans k' (fun b hb h => by omega)
      exact ⟨rfl, kk.below (Nat.le_refl _) (fun _ _ h => h)⟩
end Go.Proofs.Ybulkasdy
