/- The walk of zzs2182adec (function 5): the decimal digits of u, appended to a row of bytes that the call owns. -/
import Derived.Test.YbulkasdyDoorRows
import Derived.WalkKit
import Derived.WalkSpells
import Derived.WalkLawsBesides
import Derived.Lib.ItoaNum
import Derived.Lib.UnsafeStr
import Derived.Lib.OthersKept
import Derived.Lib.OwnKind
namespace Go.Proofs.YbulkasdyDoor
open Go.RowKit

/-! ### The plain law -/
/-- u without its c last decimal digits. -/
def sh10 (u c : Nat) : Nat := u / 10 ^ c
/-- The array after c rounds. -/
def dArr (u : Nat) : Nat → Array Value
  | 0 => Array.replicate 20 (.int .u8 0)
  | c + 1 => (dArr u c).setIfInBounds (19 - c) (.int .u8 (48 + (sh10 u c : Int) % 10))

theorem dArr_size (u : Nat) : ∀ c, (dArr u c).size = 20
  | 0 => by simp [dArr]
  | c + 1 => by simp [dArr, dArr_size u c]
theorem sh10_le (u c : Nat) : sh10 u c ≤ u := Nat.div_le_self _ _
theorem sh10_zero (u : Nat) : sh10 u 0 = u := by simp [sh10]
theorem sh10_succ (u c : Nat) : sh10 u (c + 1) = sh10 u c / 10 := by
  unfold sh10
  rw [Nat.pow_succ, Nat.div_div_eq_div_mul]

theorem sh10_lt (u c : Nat) (hu : u < 18446744073709551616) (h : c = 0 ∨ sh10 u c ≠ 0) : c ≤ 19 := by
  rcases h with h | h
  · omega
  · by_cases hc : c ≤ 19
    · exact hc
    · refine absurd ?_ h
      unfold sh10
      have : 10 ^ 20 ≤ 10 ^ c := Nat.pow_le_pow_right (by decide) (by omega)
      exact Nat.div_eq_of_lt (by omega)

theorem sh10_digits (u c : Nat) (h : c = 0 ∨ sh10 u c ≠ 0) (h1 : sh10 u (c + 1) = 0) : Lib.nDigits u = c + 1 := by
  have hup : u < 10 ^ (c + 1) := by
    unfold sh10 at h1
    exact (Nat.div_eq_zero_iff_lt (Nat.pow_pos (by decide))).1 h1
  rcases h with h | h
  · subst h
    exact Lib.nDigits_small (by simpa using hup)
  · refine Lib.nDigits_unique c u ?_ hup
    by_cases hle : 10 ^ c ≤ u
    · exact hle
    · exact absurd (Nat.div_eq_of_lt (by omega)) h

/-- what the array holds from place 20 - c on. -/
theorem dArr_get (u : Nat) : ∀ (c : Nat), c ≤ 20 → ∀ t, t < c → (dArr u c)[20 - c + t]? = some (.int .u8 ((Lib.dg u (c - 1 - t)).toNat : Int))
  | 0, _, t, ht => by omega
  | c + 1, hc, t, ht => by
    have hs := dArr_size u c
    simp only [dArr]
    by_cases h0 : t = 0
    · subst h0
      rw [show 20 - (c + 1) + 0 = 19 - c by omega, Array.getElem?_setIfInBounds_self_of_lt (by omega)]
      have e : ((Lib.dg u (c + 1 - 1 - 0)).toNat : Int) = 48 + (sh10 u c : Int) % 10 := by
        unfold Lib.dg sh10
        simp only [Nat.add_sub_cancel, Nat.sub_zero, UInt8.toNat_ofNat']
        omega
      rw [e]
    · rw [Array.getElem?_setIfInBounds_ne (by omega)]
      have := dArr_get u c (by omega) (t - 1) (by omega)
      rw [show 20 - (c + 1) + t = 20 - c + (t - 1) by omega, this, show c + 1 - 1 - t = c - 1 - (t - 1) by omega]

theorem dArr_digits (u c : Nat) (hc : c ≤ 20) (h : Lib.nDigits u = c) (w : World) :
    ∀ j v, (Lib.byteCells (Lib.decDigits u))[j]? = some v → (w.alloc (.cells (dArr u c) 33)).cell? ((⟨w.heap.size, 20 - c, none⟩ : Addr).add j) = some v := by
  intro j v hj
  rw [Lib.decDigits_eq, h] at hj
  have hjc : j < c := by
    have := (List.getElem?_eq_some_iff.1 hj).1
    simpa [Lib.byteCells] using this
  rw [Addr.add_lit, World.cell?_alloc_mark, dArr_get u c hc j hjc]
  simp [Lib.byteCells, hjc] at hj
  rw [← hj]

/-! ### The walk -/
theorem Ybad.info5 : (Ybad.prog.info? 5).map (fun i => (i.zero, i.size, i.bytes)) = some (some (.int .u8 0), 1, 1) := by kernel_rfl

theorem slice_tail (b k c : Nat) (hk : k + c = 20) (hk1 : 1 ≤ k) (W : World) :
    (Instr.sliceAt 33 (.pointer (some ⟨b, 0, none⟩)) (some (.int .i64 ((k : Int) - 1))) none none).run Ybad.prog W = .ok (.slice (some ⟨b, k - 1, none⟩) (c + 1) (c + 1)) W := by
  have hal : Ybad.prog.arrayLen 33 = 20 := by simp [Program.arrayLen, Ybad.underlying33]
  have hel : Ybad.prog.elem 33 = 5 := by simp [Program.elem, Ybad.underlying33]
  rw [run_sliceAt_array_l W 33 ⟨b, 0, none⟩ (by rw [hal, hel]; exact Ybad.underlying33) .i64 ((k : Int) - 1) (by omega) (by rw [hal]; omega)]
  rw [hal, hel]
  have hz : (sizeOf 5).run Ybad.prog W = .ok 1 W := by kernel_rfl
  rw [hz]
  have e1 : ((k : Int) - 1).toNat = k - 1 := by omega
  have e2 : 20 - (k - 1) = c + 1 := by omega
  have e3 : ¬ (20 = k - 1) := by omega
  simp [slicedAt, Result.andThen, e1, e2, e3, Addr.add_lit]

set_option maxHeartbeats 1000000 in
set_option maxRecDepth 100000 in
theorem dec_any (B n u : Nat) (hu : u < 18446744073709551616) (sv : Value) (xs : List Value) (w : World) (hown : w.ownsRow B 5 1 sv n xs) (hBw : B ≤ w.heap.size) (hlim : n + 20 ≤ 140737488355328) :
    Calls Ybad.prog 5 #[sv, .int .u64 u] w fun e w' => ∃ v', e = .returned v' ∧ w'.ownsRow B 5 1 v' (n + (Lib.decDigits u).length) (xs ++ Lib.byteCells (Lib.decDigits u)) ∧ Below B w w' ∧ Lib.OthersKept 5 none w w' := by
  obtain ⟨i0, hi, hz0, hz1, hz2⟩ := info_parts Ybad.info5
  have HO : Hid (w.ownsRow B 5 1 sv n xs) := hown
  clear hown
  go_enter Ybad.func5, Ybad.ntmps5
  go_wp2
  go_loopw [1, 6] (fun y i wr => ∃ k c : Nat, k + c = 20 ∧ 1 ≤ k ∧ Hid (c = 0 ∨ sh10 u c ≠ 0) ∧ i = .int .i64 k ∧ y = .int .u64 ((sh10 u c : Nat) : Int) ∧ wr = w.alloc (.cells (dArr u c) 33)) (fun _ i _ => (intOf i).toNat)
  case atStart => exact ⟨20, 0, rfl, by omega, Or.inl rfl, rfl, by rw [sh10_zero], rfl⟩
  case round =>
    obtain ⟨k, c, hkc, hk, HC, rfl, rfl, rfl⟩ := hrel
    have hsz := dArr_size u c
    have hle := sh10_le u c
    have HS : Hid (sh10 u (c + 1) = sh10 u c / 10) := sh10_succ u c
    have hcell : ∃ x, (w.alloc (.cells (dArr u c) 33)).cell? ⟨w.heap.size, k - 1, none⟩ = some x := by
      have hlt : k - 1 < (dArr u c).size := by omega
      exact ⟨(dArr u c)[k - 1], by rw [World.cell?_alloc_mark]; exact Array.getElem?_eq_getElem hlt⟩
    obtain ⟨x, hcell⟩ := hcell
    have hsl := fun W => slice_tail w.heap.size k c hkc hk W
    have HA : Hid ((dArr u c).setIfInBounds (k - 1) (.int .u8 (48 + (sh10 u c : Int) % 10)) = dArr u (c + 1)) := by
      show _ = (dArr u c).setIfInBounds (19 - c) _
      rw [show 19 - c = k - 1 by omega]
    by_cases hlast : sh10 u c / 10 = 0
    · have hb : (((sh10 u c : Nat) : Int) / 10 == 0) = true := by simp; omega
      have hN : Hid (Lib.nDigits u = c + 1) := sh10_digits u c HC.out (HS.out.trans hlast)
      have HN : Hid (∀ j v, (Lib.byteCells (Lib.decDigits u))[j]? = some v → (w.alloc (.cells ((dArr u c).setIfInBounds (k - 1) (.int .u8 (48 + (sh10 u c : Int) % 10))) 33)).cell? ((⟨w.heap.size, k - 1, none⟩ : Addr).add j) = some v) := by
        intro j v hj
        rw [HA.out, show k - 1 = 20 - (c + 1) by omega]
        exact dArr_digits u (c + 1) (by omega) hN.out w j v hj
      have HL : Hid ((Lib.decDigits u).length = c + 1) := (Lib.decDigits_length u).trans hN.out
      clear hlast
      go_wp2_with (at_builtin; refine wpList_append_own _ rfl _ _ 22 rfl B 5 i0 (.int .u8 0) 1 1 Ybad.underlying22 hi hz0 hz1 hz2 rfl (by decide) _ _ _ rfl (HO.out.alloc _) _ (c + 1) _ (Lib.byteCells (Lib.decDigits u)) rfl ?c0 HN.out ?c2 ?c3 ?c4 ?c5 ?_)
      case c0 => rw [Lib.byteCells_length, HL.out, Nat.mul_one]
      case c2 => intro u' hu'; simp only [Lib.byteCells, List.mem_map] at hu'; obtain ⟨b, _, rfl⟩ := hu'; rfl
      case c3 => unfold maxLen; omega
      case c4 => omega
      case c5 => simp; omega
      intro v2 w3 hown' hgrow _
      go_wp2
      go_ret
      refine ⟨v2, rfl, ?_, ((Below.refl B w).alloc hBw _).grown hgrow (by simp; omega) (fun k hk => (HO.out.lt k hk).1), ((Lib.OthersKept.refl _ _ w).alloc _).grown hgrow (Lib.ownsRow_kind (HO.out.alloc _))⟩
      rw [HL.out]
      exact hown'
    · have hb : (((sh10 u c : Nat) : Int) / 10 == 0) = false := by simp; omega
      have hlt := sh10_lt u (c + 1) hu (Or.inr (by rw [HS.out]; exact hlast))
      have HC' : Hid (c + 1 = 0 ∨ sh10 u (c + 1) ≠ 0) := Or.inr (by rw [HS.out]; exact hlast)
      clear hlast
      go_wp2
      go_roundw
      case rel => exact ⟨k - 1, c + 1, by omega, by omega, HC', by congr 1; omega, by rw [HS.out]; go_num, by rw [HA.out]⟩
      case measure => simp [intOf]; omega
end Go.Proofs.YbulkasdyDoor
