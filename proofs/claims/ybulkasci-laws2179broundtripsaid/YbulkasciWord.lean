/- The two leaf walks of this seat: wordAt (function 5) and zzs2179bref (function 6). -/
import Derived.Test.YbulkasciRows
import Derived.WalkKit
import Derived.WalkSpells
import Derived.Deep.QuietTactic
import Derived.BigQuiet
import Derived.Lib.EndianBits
import Derived.WalkLawsBesides
namespace Go.Proofs.Ybulkasci
open Go.RowKit

/-- byte k of s, as a number; 0 behind the end. -/
def byt (s : ByteArray) (k : Nat) : Nat := (s.data.toList.getD k 0).toNat

theorem byt_lt (s : ByteArray) (k : Nat) : byt s k < 256 := by
  unfold byt; exact UInt8.toNat_lt _

theorem byt_get (s : ByteArray) (k : Nat) (h : k < s.size) : byt s k = (s[k]'h).toNat := by
  unfold byt
  have h' : k < s.data.toList.length := by simpa using h
  rw [List.getD_eq_getElem?_getD, List.getElem?_eq_getElem h']
  rfl

theorem byt_extract (s : ByteArray) (i j : Nat) (hj : j < 8) (hi : i + 8 ≤ s.size) (h : j < (s.extract i (i + 8)).size) :
    ((s.extract i (i + 8))[j]'h).toNat = byt s (i + j) := by
  rw [byt_get s (i + j) (by omega)]
  rw [ByteArray.getElem_extract]

/-- the little-endian word at i. -/
def word (s : ByteArray) (i : Nat) : Nat :=
  byt s i + byt s (i + 1) * 256 + byt s (i + 2) * 65536 + byt s (i + 3) * 16777216 + byt s (i + 4) * 4294967296 + byt s (i + 5) * 1099511627776 + byt s (i + 6) * 281474976710656 + byt s (i + 7) * 72057594037927936

theorem or8 (b0 b1 b2 b3 b4 b5 b6 b7 : Nat) (h0 : b0 < 256) (h1 : b1 < 256) (h2 : b2 < 256) (h3 : b3 < 256) (h4 : b4 < 256) (h5 : b5 < 256) (h6 : b6 < 256) (h7 : b7 < 256) :
    bits .or .u64 (bits .or .u64 (bits .or .u64 (bits .or .u64 (bits .or .u64 (bits .or .u64 (bits .or .u64 (IntKind.u64.wrap (b0 : Int))
      (IntKind.u64.wrap (IntKind.u64.wrap (b1 : Int) * 256))) (IntKind.u64.wrap (IntKind.u64.wrap (b2 : Int) * 65536)))
      (IntKind.u64.wrap (IntKind.u64.wrap (b3 : Int) * 16777216))) (IntKind.u64.wrap (IntKind.u64.wrap (b4 : Int) * 4294967296)))
      (IntKind.u64.wrap (IntKind.u64.wrap (b5 : Int) * 1099511627776))) (IntKind.u64.wrap (IntKind.u64.wrap (b6 : Int) * 281474976710656)))
      (IntKind.u64.wrap (IntKind.u64.wrap (b7 : Int) * 72057594037927936))
    = ((b0 + b1 * 256 + b2 * 65536 + b3 * 16777216 + b4 * 4294967296 + b5 * 1099511627776 + b6 * 281474976710656 + b7 * 72057594037927936 : Nat) : Int) := by
  simp (disch := omega) only [u64_wrap_id, u64_or8, u64_or16, u64_or24, u64_or32, u64_or40, u64_or48, u64_or56]
  omega

theorem ret_u64 {a b : Int} (h : a = b) : Ending.returned (.int .u64 a) = .returned (.int .u64 b) := by rw [h]

set_option maxHeartbeats 1000000 in
set_option maxRecDepth 100000 in
theorem wordAt_any (s : ByteArray) (i : Nat) (hs : s.size ≤ maxLen) (hi : i + 8 ≤ s.size) (w : World) :
    Calls Yba.prog 5 #[.string s, .int .i64 i] w fun e w' => e = .returned (.int .u64 (word s i : Nat)) ∧ ∃ n, w' = w.drewN n := by
  unfold maxLen at hs
  have z : (s.extract i (i + 8)).size = 8 := by simp; omega
  go_enter Yba.func5, Yba.ntmps5
  go_wp2
  go_quiet (fail)
  go_wp2
  go_ret
  refine ⟨ret_u64 ?_, _, rfl⟩
  simp only [byt_extract _ _ _ (by decide : 0 < 8) hi, byt_extract _ _ _ (by decide : 1 < 8) hi, byt_extract _ _ _ (by decide : 2 < 8) hi, byt_extract _ _ _ (by decide : 3 < 8) hi, byt_extract _ _ _ (by decide : 4 < 8) hi, byt_extract _ _ _ (by decide : 5 < 8) hi, byt_extract _ _ _ (by decide : 6 < 8) hi, byt_extract _ _ _ (by decide : 7 < 8) hi]
  rw [or8 _ _ _ _ _ _ _ _ (byt_lt _ _) (byt_lt _ _) (byt_lt _ _) (byt_lt _ _) (byt_lt _ _) (byt_lt _ _) (byt_lt _ _) (byt_lt _ _)]
  rfl

/-- what the reference has after c rounds. -/
def refN (s : ByteArray) (i : Nat) : Nat → Nat
  | 0 => 0
  | c + 1 => refN s i c * 256 + byt s (i + (7 - c))

theorem refN_lt (s : ByteArray) (i : Nat) : ∀ c, refN s i c < 256 ^ c
  | 0 => by simp [refN]
  | c + 1 => by
    have h := refN_lt s i c
    have hb := byt_lt s (i + (7 - c))
    simp only [refN, Nat.pow_succ]
    omega

theorem refN_8 (s : ByteArray) (i : Nat) : refN s i 8 = word s i := by
  have e : refN s i 8 = ((((((((0 * 256 + byt s (i + 7)) * 256 + byt s (i + 6)) * 256 + byt s (i + 5)) * 256 + byt s (i + 4)) * 256 + byt s (i + 3)) * 256 + byt s (i + 2)) * 256 + byt s (i + 1)) * 256 + byt s i) := rfl
  rw [e]
  unfold word
  omega

theorem or_step (v b : Nat) (hv : v < 72057594037927936) (hb : b < 256) :
    bits .or .u64 ((v : Int) * 256) (IntKind.u64.wrap (b : Int)) = ((v * 256 + b : Nat) : Int) := by
  rw [u64_wrap_id _ (by omega) (by omega)]
  rw [bits_join .u64 64 (by decide) wraps_u64 8 ((v : Int) * 256) (b : Int) (by omega) (by omega) (by omega) (by omega) (by omega) (by omega)]
  omega

set_option maxHeartbeats 1000000 in
set_option maxRecDepth 100000 in
theorem ref_any (s : ByteArray) (i : Nat) (hs : s.size ≤ maxLen) (hi : i + 8 ≤ s.size) (w : World) :
    Calls Yba.prog 6 #[.string s, .int .i64 i] w fun e w' => e = .returned (.int .u64 (word s i : Nat)) ∧ w' = w := by
  unfold maxLen at hs
  go_enter Yba.func6, Yba.ntmps6
  go_wp2
  go_loop [5, 6] (fun v j => ∃ c : Nat, c ≤ 8 ∧ j = .int .i64 (7 - (c : Int)) ∧ v = .int .u64 (refN s i c : Nat)) (fun _ j => (intOf j + 1).toNat)
  case atStart => exact ⟨0, by omega, rfl, rfl⟩
  case round =>
    obtain ⟨c, hc, rfl, rfl⟩ := hrel
    by_cases hlt : c < 8
    · have hl : (0 : Int) ≤ 7 - (c : Int) := by omega
      have hv : refN s i c < 72057594037927936 := Nat.lt_of_lt_of_le (refN_lt s i c) (Nat.pow_le_pow_right (by decide) (by omega : c ≤ 7))
      have hb := byt_get s (i + (7 - c)) (by omega)
      have HB : Hid (byt s (i + (7 - c)) = (s[i + (7 - c)]'(by omega)).toNat) := hb
      clear hb
      go_wp2
      refine ⟨⟨c + 1, by omega, by go_num, ?_⟩, by simp [intOf]; omega⟩
      rw [← HB.out, or_step _ _ hv (byt_lt _ _)]
      rfl
    · obtain rfl : c = 8 := by omega
      go_wp2
      go_ret
      exact ⟨ret_u64 (by rw [refN_8]), rfl⟩
end Go.Proofs.Ybulkasci
