/- The walk of LawS2182AText (function 3). -/
import Derived.Test.YbulkasdyDoorReq
import Derived.Laws.CopyOwn
namespace Go.Proofs.YbulkasdyDoor
open Go.RowKit

/-- What the walk is told of a slice of integers that came in. -/
def IsRow (k : IntKind) (w : World) (a : Option Addr) (len cap : Nat) (zs : List Int) : Prop :=
  (a = none ∧ len = 0 ∧ cap = 0 ∧ zs = []) ∨
  ∃ x, a = some x ∧ len ≤ cap ∧ cap ≤ maxLen ∧ zs.length = cap ∧ (∀ i, i < zs.length → w.cell? (x.add i) = some (.int k (zs.getD i 0))) ∧ ∀ n ∈ zs, (Lit.int k n).wf = true

theorem IsRow.len {k : IntKind} {w : World} {a : Option Addr} {len cap : Nat} {zs : List Int} (h : IsRow k w a len cap zs) : (zs.take len).length = len := by
  rcases h with ⟨_, rfl, _, rfl⟩ | ⟨x, _, h1, _, h2, _⟩
  · rfl
  · simp; omega

theorem IsRow.none {k : IntKind} {w : World} {a : Option Addr} {len cap : Nat} {zs : List Int} (h : IsRow k w a len cap zs) : a = Option.none → len = 0 ∧ cap = 0 := by
  rcases h with ⟨_, h1, h2, _⟩ | ⟨x, rfl, _⟩
  · exact fun _ => ⟨h1, h2⟩
  · intro e; cases e

theorem IsRow.cells {w w' : World} {a : Option Addr} {len cap : Nat} {zs : List Int} (h : IsRow .u8 w a len cap zs) (hb : Below w.heap.size w w') :
    ∀ ad, a = some ad → ∀ j u, (ic (zs.take len))[j]? = some u → w'.cell? (ad.add j) = some u := by
  intro ad had j u hj
  rcases h with ⟨rfl, _⟩ | ⟨x, hax, h1, _, h2, hc, _⟩
  · cases had
  · obtain rfl : x = ad := by rw [hax] at had; cases had; rfl
    have hjl : j < len := by
      have := (List.getElem?_eq_some_iff.1 hj).1
      simp [ic] at this
      omega
    have h3 := hc j (by omega)
    have hlt : (x.add j).block < w.heap.size := World.block_lt_of_cell? w _ h3
    rw [hb.cell hlt, h3]
    rw [← hj]
    have hz : j < zs.length := by omega
    simp [ic, hjl, hz, List.getD]

theorem ic_one (l : List Int) : ∀ u ∈ ic l, u.oneCell' = true := by
  intro u hu
  simp only [ic, List.mem_map] at hu
  obtain ⟨b, _, rfl⟩ := hu
  rfl

theorem cells_new (w : World) (l : List Value) (t : TypeId) : ∀ j u, l[j]? = some u → (w.alloc (.cells l.toArray t)).cell? ((⟨w.heap.size, 0, none⟩ : Addr).add j) = some u := by
  intro j u hj
  rw [Addr.add_lit, Nat.zero_add, World.cell?_alloc_mark]
  simpa using hj

theorem Own.ints {B : Nat} {w0 w w' : World} {v v' : Value} {L : List Int} (h : Own B w0 w v L) (hB : B ≤ w0.heap.size) (o : Obj) (news : List Int) (M m : Nat) (hM : L.length ≤ M) (hm : news.length ≤ m)
    (hown : w'.ownsRow B 5 1 v' (L.length + news.length) (ic L ++ ic news)) (hg : (w.alloc o).grownBy w' v.ownBlock) : ∃ L', Hid (L' = L ++ news) ∧ L'.length ≤ M + m ∧ Own B w0 w' v' L' := by
  have hs := Nat.le_trans hB h.2.1.size
  refine ⟨_, rfl, by rw [List.length_append]; omega, ?_, (h.2.1.alloc hs o).grown hg (by simp; omega) (fun k hk => (h.1.lt k hk).1), (h.2.2.alloc o).grown hg (Lib.ownsRow_kind (h.1.alloc o))⟩
  rw [List.length_append, ic_append]
  exact hown

/-- A row behind 'copy'. -/
theorem copied {B g n : Nat} {w : World} {cur cs : List Value} (hB : B ≤ g) (hm : n ≤ maxLen) (hcur : cur.length = n) (hcs : cs.length = n) (h : w.heap[g]? = some (.cells (splice cur 0 cs).toArray 5 (0, 0))) :
    w.ownsRow B 5 1 (.slice (some ⟨g, 0, none⟩) n n) n cs := by
  have e : splice cur 0 cs = cs := by
    simp [splice, hcs, hcur]
  rw [e] at h
  exact ⟨by omega, .inr ⟨g, n, cs.toArray, rfl, hB, h, Nat.le_refl _, hm, by simp [hcs], by simp [← hcs]⟩⟩

theorem owns_bytesIn {w : World} {B : Nat} {v : Value} {L : List Int} (h : w.ownsRow B 5 1 v L.length (ic L)) (hp : 0 < L.length) :
    ∃ g c, v = .slice (some ⟨g, 0, none⟩) L.length c ∧ Lib.BytesIn w (some ⟨g, 0, none⟩) L.length L := by
  rcases h.2 with ⟨_, h0⟩ | ⟨g, cap, cur, hv, _⟩
  · omega
  · refine ⟨g, cap, hv, Lib.BytesIn.of_cells fun i hi => ?_⟩
    refine h.cells (g := g) (by rw [hv]; rfl) i _ ?_
    simp [ic, hi, List.getD]

theorem bytesIn_later {w w' : World} {a : Addr} {n : Nat} {xs : List Int} (h : Lib.BytesIn w (some a) n xs) (hb : Below w.heap.size w w') : Lib.BytesIn w' (some a) n xs := by
  intro hn
  obtain ⟨b, o, e, hc⟩ := h hn
  refine ⟨b, o, e, fun i hi => ?_⟩
  rw [hb.cell (p := ⟨b, o + i, none⟩) (World.block_lt_of_cell? w _ (hc i hi))]
  exact hc i hi

set_option maxHeartbeats 2000000 in
set_option maxRecDepth 100000 in
theorem law_main (a0 : Option Addr) (len0 cap0 : Nat) (z0 : List Int) (key mode : ByteArray) (delta : Nat) (w : World) (hrow : IsRow .u8 w a0 len0 cap0 z0)
    (hl : len0 ≤ 1024) (hk : key.size ≤ 1024) (hm : mode.size ≤ 1024) (hd : delta < 18446744073709551616) (htab : Lib.TabIs Ybad.prog w powName .u64 Lib.pow10Tab) :
    Calls Ybad.prog 3 #[.slice a0 len0 cap0, .string key, .string mode, .int .u64 delta] w fun e w' => e = .returned (.bool true) ∧ Below w.heap.size w w' := by
  obtain ⟨i0, hi, hz0, hz1, hz2⟩ := info_parts Ybad.info5
  have HR := hideIt hrow
  have HT := hideIt (Lib.tabBelow_of_tabIs htab)
  have HLen := hideIt hrow.len
  clear hrow htab
  go_enter Ybad.func3, Ybad.ntmps3
  go_wp2_with (at_make; refine wpList_make_full _ rfl _ _ 22 rfl w.heap.size 5 i0 (.int .u8 0) 1 Ybad.underlying22 hi hz0 hz1 _ _ _ _ len0 rfl rfl rfl rfl ?b2 ?b3 ?b4 ?_)
  case b2 => rw [hz2]; omega
  case b3 => unfold maxLen; omega
  case b4 => omega
  intro w1 hown1 hgrow1
  have hB1 : Below w.heap.size w w1 := (Below.refl _ _).grown hgrow1 (by omega) (by simp)
  have hcur : ∃ cur : List Value, Hid (w1.heap[w.heap.size]? = some (.cells cur.toArray 5 (0, 0))) ∧ Hid (cur.length = len0) := by
    rcases hown1.2 with ⟨hv, _⟩ | ⟨g, cap, cur, hv, _, hg, _, _, hcs, _⟩
    · cases hv
    · cases hv
      exact ⟨cur.toList, by show _ = _; simpa using hg, by show cur.toList.length = _; simpa using hcs⟩
  obtain ⟨cur, HG, HCL⟩ := hcur
  clear hown1 hgrow1
  go_wp2_with (refine wpList_copy_splice rfl (.tmp 29) (.tmp 30) 22 22 rfl 5 Ybad.underlying22 (by rw [hi]; simp [hz1]) _ _ _ _ _ _ rfl rfl w.heap.size 0 cur 5 HG.out (ic (z0.take len0)) ?e1 ?e2 ?e3 (ic_one _) w.heap.size w hB1 (Nat.le_refl _) ?_)
  case e1 => rw [ic_length, HLen.out]; simp
  case e2 =>
    intro hpos
    cases ha : a0 with
    | none => have := HR.out.none ha; rw [ic_length, HLen.out] at hpos; omega
    | some ad => exact ⟨ad, rfl, HR.out.cells hB1 ad ha⟩
  case e3 => rw [ic_length, HLen.out, HCL.out]; omega
  intro w2 HG2 hB2
  have h2 : w2.ownsRow w.heap.size 5 1 (.slice (some ⟨w.heap.size, 0, none⟩) len0 len0) (z0.take len0).length (ic (z0.take len0)) := by
    rw [HLen.out]
    exact copied (Nat.le_refl _) (by unfold maxLen; omega) HCL.out (by rw [ic_length, HLen.out]) HG2.out
  have H2 := hideIt h2
  have hs2 := hB2.size
  clear h2 HG2 HG HCL hB1
  go_wp2_with fail
  refine (request_any w.heap.size w2.heap.size delta key mode hd _ (z0.take len0) _ (by have := H2.out.alloc (xch key mode delta); rw [HLen.out] at this ⊢; exact this) (by simp; omega) (by rw [HLen.out]; omega) (by omega) (by omega) (heap_alloc_new w2 _) (HT.out.on (hB2.alloc hs2 _))).mono ?_
  rintro e w3 ⟨v3, rfl, h3⟩
  have hB3 : Below w.heap.size w w3 := (hB2.alloc hs2 _).trans h3.2.1
  have H3 := hideIt h3
  have hs3 := hB3.size
  clear H2 hB2 hs2 h3
  go_wp2_with (at_make; refine wpList_make_own _ rfl _ _ 22 rfl w3.heap.size 5 i0 (.int .u8 0) 1 Ybad.underlying22 hi hz0 hz1 _ _ _ (len0 + key.size + mode.size + 40) rfl rfl (by omega) ?m2 ?m3 ?m4 ?_)
  case m2 => rw [hz2]; omega
  case m3 => unfold maxLen; omega
  case m4 => omega
  intro w4 hown4 hgrow4
  have hB4 : Below w3.heap.size w3 w4 := (Below.refl _ _).grown hgrow4 (by omega) (by simp)
  have hk4 : Lib.OthersKept 5 none w3 w4 := (Lib.OthersKept.refl _ _ _).grown hgrow4 (by simp)
  clear hgrow4
  go_wp2_with (at_builtin; refine wpList_append_fits_any _ rfl _ _ 22 rfl w3.heap.size 5 i0 1 Ybad.underlying22 hi hz1 _ _ _ _ rfl hown4 _ _ _ (ic (z0.take len0)) rfl ?n1 HR.out.none (HR.out.cells (hB3.trans (hB4.mono hs3))) (ic_one _) ?n2 ?_)
  case n1 => rw [ic_length, HLen.out, Nat.mul_one]
  case n2 => omega
  intro w5 hown5 hgrow5
  have h5 : Own w3.heap.size w3 w5 (.slice (some ⟨w3.heap.size, 0, none⟩) len0 (len0 + key.size + mode.size + 40)) (z0.take len0) := by
    refine ⟨?_, hB4.grown hgrow5 hB4.size (by simp), hk4.grown hgrow5 ?_⟩
    · rw [HLen.out]
      simpa using hown5
    · intro g hg
      exact Lib.ownsRow_kind hown4 g (by rw [← hg]; rfl)
  have hx5 : ∃ L5, Hid (L5 = z0.take len0) ∧ L5.length ≤ 1024 ∧ Own w3.heap.size w3 w5 (.slice (some ⟨w3.heap.size, 0, none⟩) len0 (len0 + key.size + mode.size + 40)) L5 :=
    ⟨_, rfl, by rw [HLen.out]; exact hl, h5⟩
  clear hown4 hown5 hgrow5 hk4 hB4 h5
  obtain ⟨L5, E5, l5, h5⟩ := hx5
  have hBB : w3.heap.size ≤ w3.heap.size := Nat.le_refl _
  go_wp2_with (at_builtin; refine wpList_append_own _ rfl _ _ 22 rfl w3.heap.size 5 i0 (.int .u8 0) 1 1 Ybad.underlying22 hi hz0 hz1 hz2 rfl (by decide) _ _ _ rfl (h5.1.alloc _) _ 3 _ [.int .u8 109, .int .u8 97, .int .u8 32] rfl rfl (cells_new _ [.int .u8 109, .int .u8 97, .int .u8 32] 5) ?o1 ?o2 ?o3 ?o4 ?_)
  case o1 => exact ic_one [109, 97, 32]
  case o2 => unfold maxLen; omega
  case o3 => omega
  case o4 => have := h5.2.1.size; simp; omega
  intro v6 w6 hown6 hgrow6 _
  obtain ⟨L6, E6, l6, h6⟩ := h5.ints hBB _ [109, 97, 32] 1024 3 l5 (by decide) hown6 hgrow6
  clear h5 hown6 hgrow6
  go_wp2_with (at_builtin; refine Lib.wpList_append_own_string _ rfl _ _ 22 9 rfl w3.heap.size 5 i0 Ybad.underlying22 Ybad.underlying9 hi hz0 hz1 hz2 _ _ _ rfl h6.1 key rfl ?p1 ?p2 ?p3 ?_)
  case p1 => unfold maxLen; omega
  case p2 => omega
  case p3 => exact h6.2.1.size
  intro v7 w7 hown7 hgrow7 _
  obtain ⟨L7, E7, l7, h7⟩ := h6.strx hBB key 1024 1027 hk l6 hown7 hgrow7
  clear h6 hown7 hgrow7
  go_wp2_with (at_builtin; refine wpList_append_own _ rfl _ _ 22 rfl w3.heap.size 5 i0 (.int .u8 0) 1 1 Ybad.underlying22 hi hz0 hz1 hz2 rfl (by decide) _ _ _ rfl (h7.1.alloc _) _ 2 _ [.int .u8 32, .int .u8 77] rfl rfl (cells_new _ [.int .u8 32, .int .u8 77] 5) ?q1 ?q2 ?q3 ?q4 ?_)
  case q1 => exact ic_one [32, 77]
  case q2 => unfold maxLen; omega
  case q3 => omega
  case q4 => have := h7.2.1.size; simp; omega
  intro v8 w8 hown8 hgrow8 _
  obtain ⟨L8, E8, l8, h8⟩ := h7.ints hBB _ [32, 77] 2051 2 l7 (by decide) hown8 hgrow8
  clear h7 hown8 hgrow8
  go_wp2_with (at_builtin; refine Lib.wpList_append_own_string _ rfl _ _ 22 9 rfl w3.heap.size 5 i0 Ybad.underlying22 Ybad.underlying9 hi hz0 hz1 hz2 _ _ _ rfl h8.1 mode rfl ?r1 ?r2 ?r3 ?_)
  case r1 => unfold maxLen; omega
  case r2 => omega
  case r3 => exact h8.2.1.size
  intro v9 w9 hown9 hgrow9 _
  obtain ⟨L9, E9, l9, h9⟩ := h8.strx hBB mode 1024 2053 hm l8 hown9 hgrow9
  clear h8 hown9 hgrow9
  go_wp2_with (at_builtin; refine wpList_append_own _ rfl _ _ 22 rfl w3.heap.size 5 i0 (.int .u8 0) 1 1 Ybad.underlying22 hi hz0 hz1 hz2 rfl (by decide) _ _ _ rfl (h9.1.alloc _) _ 2 _ [.int .u8 32, .int .u8 68] rfl rfl (cells_new _ [.int .u8 32, .int .u8 68] 5) ?s1 ?s2 ?s3 ?s4 ?_)
  case s1 => exact ic_one [32, 68]
  case s2 => unfold maxLen; omega
  case s3 => omega
  case s4 => have := h9.2.1.size; simp; omega
  intro v10 w10 hown10 hgrow10 _
  obtain ⟨L10, E10, l10, h10⟩ := h9.ints hBB _ [32, 68] 3077 2 l9 (by decide) hown10 hgrow10
  clear h9 hown10 hgrow10
  go_wp2_with fail
  refine (dec_any w3.heap.size _ delta hd v10 _ _ h10.1 h10.2.1.size (by omega)).mono ?_
  rintro e w11 ⟨v11, rfl, hown11, hb11, hk11⟩
  obtain ⟨L11, E11, l11, h11⟩ := h10.digx hd l10 hown11 hb11 hk11
  clear h10 hown11 hb11 hk11
  go_wp2_with (at_builtin; refine wpList_append_own _ rfl _ _ 22 rfl w3.heap.size 5 i0 (.int .u8 0) 1 1 Ybad.underlying22 hi hz0 hz1 hz2 rfl (by decide) _ _ _ rfl (h11.1.alloc _) _ 4 _ [.int .u8 32, .int .u8 118, .int .u8 13, .int .u8 10] rfl rfl (cells_new _ [.int .u8 32, .int .u8 118, .int .u8 13, .int .u8 10] 5) ?u1 ?u2 ?u3 ?u4 ?_)
  case u1 => exact ic_one [32, 118, 13, 10]
  case u2 => unfold maxLen; omega
  case u3 => omega
  case u4 => have := h11.2.1.size; simp; omega
  intro v12 w12 hown12 hgrow12 _
  obtain ⟨L12, E12, l12, h12⟩ := h11.ints hBB _ [32, 118, 13, 10] 3099 4 l11 (by decide) hown12 hgrow12
  clear h11 hown12 hgrow12
  have EE : L12 = z0.take len0 ++ reqL key mode delta := by
    rw [E12.out, E11.out, E10.out, E9.out, E8.out, E7.out, E6.out, E5.out]
    simp [reqL]
  have h3 := H3.out
  rw [← EE] at h3
  have hp : 0 < L12.length := by rw [EE]; simp [reqL]; omega
  obtain ⟨g1, c1, e1, b1⟩ := owns_bytesIn h3.1 hp
  obtain ⟨g2, c2, e2, b2⟩ := owns_bytesIn h12.1 hp
  have b1' : Lib.BytesIn w12 (some ⟨g1, 0, none⟩) L12.length L12 := by
    exact bytesIn_later b1 h12.2.1
  have HB1 := hideIt b1'
  have HB2 := hideIt b2
  have hfin : Below w.heap.size w w12 := hB3.trans (h12.2.1.mono hs3)
  have HF := hideIt hfin
  clear b1 b1' b2 h3 EE hp H3 hfin h12
  subst e1 e2
  go_wp2_with fail
  refine (bytesEqual_all _ _ _ _ _ _ L12 L12 _ rfl rfl HB1.out HB2.out).mono ?_
  rintro e w13 ⟨rfl, rfl⟩
  go_wp2
  go_ret
  exact ⟨by simp, HF.out⟩

set_option maxHeartbeats 1000000 in
theorem law_any (a0 : Option Addr) (len0 cap0 : Nat) (z0 : List Int) (key mode : ByteArray) (delta : Nat) (w : World) (hrow : IsRow .u8 w a0 len0 cap0 z0)
    (hd : delta < 18446744073709551616) (htab : Lib.TabIs Ybad.prog w powName .u64 Lib.pow10Tab) :
    Calls Ybad.prog 3 #[.slice a0 len0 cap0, .string key, .string mode, .int .u64 delta] w fun e w' => e = .returned (.bool true) ∧ Below w.heap.size w w' := by
  by_cases h1 : 1024 < len0
  · clear hrow htab
    go_enter Ybad.func3, Ybad.ntmps3
    go_wp2
    go_ret
    exact ⟨rfl, Below.refl _ _⟩
  · by_cases h2 : 1024 < key.size
    · clear hrow htab
      go_enter Ybad.func3, Ybad.ntmps3
      go_wp2
      go_ret
      exact ⟨rfl, Below.refl _ _⟩
    · by_cases h3 : 1024 < mode.size
      · clear hrow htab
        go_enter Ybad.func3, Ybad.ntmps3
        go_wp2
        go_ret
        exact ⟨rfl, Below.refl _ _⟩
      · exact law_main a0 len0 cap0 z0 key mode delta w hrow (by omega) (by omega) (by omega) hd htab
end Go.Proofs.YbulkasdyDoor
