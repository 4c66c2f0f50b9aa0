/- The walk of LawS2179BRoundTrip (function 4). -/
import Derived.Test.YbulkasciWord
import Derived.Room.AppendFits
import Derived.Laws.IdiomStrings
namespace Go.Proofs.Ybulkasci
open Go.RowKit

/-- bytes as cells. -/
def bc (l : List UInt8) : List Value := l.map fun b => Value.int .u8 b.toNat
/-- x shifted right by k bytes. -/
def sh (x k : Nat) : Nat := x / 256 ^ k
/-- the k least bytes of x, the least first. -/
def les (x k : Nat) : List UInt8 := (List.range k).map fun j => UInt8.ofNat (sh x j)

theorem sh_zero (x : Nat) : sh x 0 = x := by simp [sh]
theorem sh_succ (x k : Nat) : sh x (k + 1) = sh x k / 256 := by
  unfold sh
  rw [Nat.pow_succ, Nat.div_div_eq_div_mul]
theorem sh_le (x k : Nat) : sh x k ≤ x := Nat.div_le_self _ _

theorem les_length (x k : Nat) : (les x k).length = k := by simp [les]
theorem les_succ (x k : Nat) : les x (k + 1) = les x k ++ [UInt8.ofNat (sh x k)] := by
  simp [les, List.range_succ]
theorem bc_append (a b : List UInt8) : bc (a ++ b) = bc a ++ bc b := by simp [bc]
theorem bc_str (s : ByteArray) : Lib.strCells s = bc s.data.toList := rfl

theorem byte_sh (x k : Nat) : (((UInt8.ofNat (sh x k)).toNat : Nat) : Int) = (sh x k : Int) % 256 := by
  simp [UInt8.toNat_ofNat']

theorem bc_step (l : List UInt8) (x k : Nat) : bc (l ++ les x (k + 1)) = bc (l ++ les x k) ++ [.int .u8 ((sh x k : Int) % 256)] := by
  rw [les_succ, ← List.append_assoc, bc_append _ [_]]
  simp [bc]

/-- the whole string. -/
def whole (pre suf : ByteArray) (x : Nat) : ByteArray := ⟨(pre.data.toList ++ les x 8 ++ suf.data.toList).toArray⟩

theorem size_list (s : ByteArray) : s.data.toList.length = s.size := by simp

theorem whole_size (pre suf : ByteArray) (x : Nat) : (whole pre suf x).size = pre.size + 8 + suf.size := by
  unfold whole
  show (pre.data.toList ++ les x 8 ++ suf.data.toList).toArray.size = _
  simp [les_length]
  omega

theorem byt_whole (pre suf : ByteArray) (x j : Nat) (hj : j < 8) : byt (whole pre suf x) (pre.size + j) = sh x j % 256 := by
  unfold byt whole
  have h1 : (pre.data.toList ++ les x 8 ++ suf.data.toList)[pre.size + j]? = some (UInt8.ofNat (sh x j)) := by
    rw [List.append_assoc, List.getElem?_append_right (by simp)]
    rw [size_list, Nat.add_sub_cancel_left, List.getElem?_append_left (by rw [les_length]; exact hj)]
    simp [les, hj]
  simp only [List.getD_eq_getElem?_getD]
  rw [h1]
  simp [UInt8.toNat_ofNat']

theorem word_whole (pre suf : ByteArray) (x : Nat) (hx : x < 18446744073709551616) : word (whole pre suf x) pre.size = x := by
  have h0 := byt_whole pre suf x 0 (by decide)
  have h1 := byt_whole pre suf x 1 (by decide)
  have h2 := byt_whole pre suf x 2 (by decide)
  have h3 := byt_whole pre suf x 3 (by decide)
  have h4 := byt_whole pre suf x 4 (by decide)
  have h5 := byt_whole pre suf x 5 (by decide)
  have h6 := byt_whole pre suf x 6 (by decide)
  have h7 := byt_whole pre suf x 7 (by decide)
  rw [Nat.add_zero, sh_zero] at h0
  unfold word
  rw [h0, h1, h2, h3, h4, h5, h6, h7]
  have e1 : sh x 1 = sh x 0 / 256 := sh_succ x 0
  have e2 : sh x 2 = sh x 1 / 256 := sh_succ x 1
  have e3 : sh x 3 = sh x 2 / 256 := sh_succ x 2
  have e4 : sh x 4 = sh x 3 / 256 := sh_succ x 3
  have e5 : sh x 5 = sh x 4 / 256 := sh_succ x 4
  have e6 : sh x 6 = sh x 5 / 256 := sh_succ x 5
  have e7 : sh x 7 = sh x 6 / 256 := sh_succ x 6
  rw [sh_zero] at e1
  omega

theorem Yba.info5 : (Yba.prog.info? 5).map (fun i => (i.zero, i.size, i.bytes)) = some (some (.int .u8 0), 1, 1) := by kernel_rfl

/-- 'string(b)' of the row that the call owns. -/
theorem conv_whole (pre suf : ByteArray) (x B : Nat) (w : World)
    (h : w.ownsRow B 5 1 (.slice (some ⟨B, 0, none⟩) (pre.size + 8 + suf.size) (pre.size + 8 + suf.size)) (pre.size + 8 + suf.size) (bc (pre.data.toList ++ les x 8) ++ bc suf.data.toList)) :
    (convert 26 9 (.slice (some ⟨B, 0, none⟩) (pre.size + 8 + suf.size) (pre.size + 8 + suf.size))).run Yba.prog w = .ok (.string (whole pre suf x)) w := by
  have hl : (pre.data.toList ++ les x 8 ++ suf.data.toList).length = pre.size + 8 + suf.size := by simp [les_length]; omega
  have hc := h.cells (g := B) rfl
  rw [← bc_append] at hc
  have r := run_convert_bytes_back (P := Yba.prog) w 26 9 5 ⟨B, 0, none⟩ (pre.size + 8 + suf.size) (pre.data.toList ++ les x 8 ++ suf.data.toList) Yba.underlying26 Yba.underlying5 Yba.underlying9
    (fun j hj => hc j _ (by unfold bc; rw [List.getElem?_map, List.getElem?_eq_getElem hj]; rfl))
  rw [hl] at r
  exact r

set_option maxHeartbeats 2000000 in
set_option maxRecDepth 100000 in
theorem round_walk (pre suf : ByteArray) (x : Nat) (hx : x < 18446744073709551616) (hp : pre.size ≤ 1024) (hq : suf.size ≤ 1024) (w : World) :
    Calls Yba.prog 4 #[.string pre, .int .u64 x, .string suf] w fun e w' => e = .returned (.bool true) ∧ Below w.heap.size w w' := by
  obtain ⟨i0, hi, hz0, hz1, hz2⟩ := info_parts Yba.info5
  go_enter Yba.func4, Yba.ntmps4
  go_wp2_with (at_make; refine wpList_make_own _ rfl _ _ 26 rfl w.heap.size 5 i0 (.int .u8 0) 1 Yba.underlying26 hi hz0 hz1 _ _ _ (pre.size + 8 + suf.size) rfl rfl (by omega) ?b2 ?b3 ?b4 ?_)
  case b2 => rw [hz2]; omega
  case b3 => unfold maxLen; omega
  case b4 => omega
  intro w1 hown1 hgrow1
  have hB1 : Below w.heap.size w w1 := (Below.refl _ _).grown hgrow1 (by omega) (by simp)
  have hs1 := hB1.size
  clear hgrow1
  go_wp2_with (at_builtin; refine Lib.wpList_append_fits_string _ rfl _ _ 26 9 rfl w.heap.size 5 i0 Yba.underlying26 Yba.underlying9 hi hz1 _ 0 _ [] rfl hown1 pre rfl (by omega) (by omega) ?_)
  intro w2 hown2 hgrow2
  have hB2 : Below w.heap.size w w2 := hB1.grown hgrow2 (by omega) (by simp [Value.ownBlock])
  have hs2 := hB2.size
  clear hgrow2 hown1 hB1 hs1
  rw [show Lib.strCells pre = bc (pre.data.toList ++ les x 0) by simp [bc, les, Lib.strCells]] at hown2
  go_wp2_with fail
  go_loopw [7, 8, 9] (fun b y j wr => ∃ k : Nat, k ≤ 8 ∧ j = .int .i64 k ∧ y = .int .u64 ((sh x k : Nat) : Int) ∧ b = .slice (some ⟨w.heap.size, 0, none⟩) (pre.size + k) (pre.size + 8 + suf.size) ∧
      wr.ownsRow w.heap.size 5 1 b (pre.size + k) (bc (pre.data.toList ++ les x k)) ∧ Below w.heap.size w wr) (fun _ _ j _ => 8 - (intOf j).toNat)
  case atStart => exact ⟨0, by omega, rfl, by rw [sh_zero], rfl, hown2, hB2⟩
  case round =>
    clear hown2 hB2 hs2
    obtain ⟨k, hk, rfl, rfl, rfl, hown, hB⟩ := hrel
    have hs := hB.size
    have hle := sh_le x k
    by_cases hlt : k < 8
    · go_wp2_with (at_builtin; refine wpList_append_fits _ rfl _ _ 26 rfl w.heap.size 5 i0 1 Yba.underlying26 hi hz1 _ _ _ _ rfl (hown.alloc _) _ 1 _ [.int .u8 ((sh x k : Int) % 256)] rfl rfl (cell_one_new _ _ _) ?c2 ?c3 ?_)
      case c2 => intro u hu; simp at hu; subst hu; rfl
      case c3 => omega
      intro w3 hown3 hgrow3
      have hB3 : Below w.heap.size w w3 := (hB.alloc hs _).grown hgrow3 (by simp; omega) (by simp)
      rw [← bc_step] at hown3
      clear hown hgrow3
      go_wp2
      go_roundw
      case rel => exact ⟨k + 1, by omega, by go_num, by rw [sh_succ]; go_num, rfl, hown3, hB3⟩
      case measure => simp [intOf]; omega
    · obtain rfl : k = 8 := by omega
      go_wp2_with (at_builtin; refine Lib.wpList_append_fits_string _ rfl _ _ 26 9 rfl w.heap.size 5 i0 Yba.underlying26 Yba.underlying9 hi hz1 _ _ _ _ rfl hown suf rfl (by omega) (by omega) ?_)
      intro w3 hown3 hgrow3
      have hB3 : Below w.heap.size w w3 := hB.grown hgrow3 (by omega) (by simp [Value.ownBlock])
      have hcv := conv_whole pre suf x w.heap.size w3 hown3
      clear hown hgrow3 hown3
      go_wp2_with fail
      refine (wordAt_any (whole pre suf x) pre.size (by rw [whole_size]; unfold maxLen; omega) (by rw [whole_size]; omega) _).mono ?_
      rintro e w' ⟨rfl, n, rfl⟩
      rw [word_whole _ _ _ hx]
      go_wp2
      go_ret
      exact ⟨by simp, hB3.trans ⟨rfl, rfl, rfl, Nat.le_refl _, fun _ _ => rfl⟩⟩
end Go.Proofs.Ybulkasci
