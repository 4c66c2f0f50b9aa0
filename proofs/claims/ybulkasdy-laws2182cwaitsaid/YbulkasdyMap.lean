/- The counts of keys as maps, and their laws. -/
import Derived.Test.YbulkasdyBools
import Derived.Maps.Own
import Derived.Maps.OwnOps
import Derived.Maps.OwnSet
import Derived.Maps.Views
import Derived.StringKeys
namespace Go.Proofs.Ybulkasdy
open Go.RowKit Go.Maps

theorem mlaw : Keyed Yba.prog 9 := string_keyed Yba.underlying9

theorem zero3 (w : World) : (zeroValue 3).run Yba.prog w = .ok (.int .i64 0) w := by kernel_rfl

/-- The key's literal. -/
def klit (q : Int) : Lit := .string (tbl q).data.toList

theorem tbl_size (q : Int) : (tbl q).size = 1 := rfl

theorem klit_key (q : Int) : keyOf Yba.prog 9 (.string (tbl q)) = some (klit q) := Go.WideMaps.keyOf_string_mk Yba.underlying9 (by rw [tbl_size]; unfold maxLen; omega)

theorem klit_is (q : Int) : WideAt.IsKeyLit (klit q) := trivial

theorem tbl_mod (q : Int) : tbl (q % 5) = tbl q := by simp [tbl]

theorem klit_ne {i j : Nat} (hi : i < 5) (hj : j < 5) (h : i ≠ j) : klit i ≠ klit j := by
  have hi' : i = 0 ∨ i = 1 ∨ i = 2 ∨ i = 3 ∨ i = 4 := by omega
  have hj' : j = 0 ∨ j = 1 ∨ j = 2 ∨ j = 3 ∨ j = 4 := by omega
  rcases hi' with rfl | rfl | rfl | rfl | rfl <;> rcases hj' with rfl | rfl | rfl | rfl | rfl <;> first | (exact absurd rfl h) | (simp [klit, tbl])

/-- Block B is a map of at most m entries that holds the counts sc at the keys that sp names, and no other. -/
structure MapIs (w : World) (B m : Nat) (sc : Nat → Int) (sp : Nat → Bool) : Prop where
  ex : ∃ D : DataW Unit, w.ownsMap Yba.prog 9 (plainElem Yba.prog 3) B m D ∧ (∀ k : Nat, k < 5 → D.atKey (klit k) (.lit (.int .i64 0)) = .lit (.int .i64 (sc k))) ∧ (∀ k : Nat, k < 5 → has D (klit k) = sp k) ∧ (size D = 0 ↔ ∀ k : Nat, k < 5 → sp k = false)

theorem MapIs.start (w : World) : MapIs (w.alloc (.map #[] 0)) w.heap.size 0 (fun _ => 0) (fun _ => false) :=
  ⟨.map [], World.ownsMap_made w _ _ _, fun _ _ => rfl, fun _ _ => rfl, by simp [size]⟩

theorem MapIs.of_block {w w' : World} {B m : Nat} {sc : Nat → Int} {sp : Nat → Bool} (h : MapIs w B m sc sp) (hb : w'.heap[B]? = w.heap[B]?) : MapIs w' B m sc sp := by
  obtain ⟨D, ⟨es, clock, h1, h2⟩, h3⟩ := h.ex
  exact ⟨D, ⟨es, clock, hb.trans h1, h2⟩, h3⟩

theorem MapIs.lt {w : World} {B m : Nat} {sc : Nat → Int} {sp : Nat → Bool} (h : MapIs w B m sc sp) : B < w.heap.size := by
  obtain ⟨D, h1, _⟩ := h.ex
  exact h1.lt

theorem MapIs.mono {w : World} {B m m' : Nat} {sc : Nat → Int} {sp : Nat → Bool} (h : MapIs w B m sc sp) (hm : m ≤ m') : MapIs w B m' sc sp := by
  obtain ⟨D, h1, h2⟩ := h.ex
  exact ⟨D, h1.mono hm, h2⟩

/-- A function turned at one place. -/
def upd {α : Type} (f : Nat → α) (k : Nat) (x : α) : Nat → α := fun j => if j = k then x else f j

theorem MapIs.put {w : World} {B m : Nat} {sc : Nat → Int} {sp : Nat → Bool} (h : MapIs w B m sc sp) (k : Nat) (hk : k < 5) (x : Int) (hx : (Lit.int .i64 x).wf = true) (hm : m < 1000) :
    ∃ w', (Instr.mapUpdate 50 (.map (some B)) (.string (tbl k)) (.int .i64 x)).run Yba.prog w = .ok () w' ∧ MapIs w' B (m + 1) (upd sc k x) (upd sp k true) ∧ w.grownBy w' (some B) := by
  obtain ⟨D, h1, h2, h3, h4⟩ := h.ex
  obtain ⟨w', hr, ho, hg⟩ := h1.update mlaw Yba.underlying50 (by unfold maxLen; omega) (klit_key k) (plainElem_int Yba.underlying3 hx)
  refine ⟨w', hr, ⟨_, ho, fun j hj => ?_, fun j hj => ?_, ?_⟩, hg⟩
  · by_cases e : j = k
    · subst e
      rw [atKey_put_same h1.isMap (klit_is _)]
      simp [upd]
    · rw [atKey_put_other (klit_ne hj hk e), h2 j hj]
      simp [upd, e]
  · by_cases e : j = k
    · subst e
      rw [has_put_same h1.isMap (klit_is _)]
      simp [upd]
    · rw [has_put_other (klit_ne hj hk e), h3 j hj]
      simp [upd, e]
  · constructor
    · intro hz
      rw [size_put (h1.tidy mlaw)] at hz
      split at hz
      · rename_i hh
        rw [h3 k hk] at hh
        have := h4.1 hz k hk
        rw [hh] at this
        cases this
      · omega
    · intro hz
      have := hz k hk
      simp [upd] at this

theorem MapIs.look {w : World} {B m : Nat} {sc : Nat → Int} {sp : Nat → Bool} (h : MapIs w B m sc sp) (q : Int) :
    (Instr.lookup 50 (.map (some B)) (.string (tbl q)) false).run Yba.prog w = .ok (.int .i64 (sc (q % 5).toNat)) w := by
  obtain ⟨D, h1, h2, _, _⟩ := h.ex
  obtain ⟨c, hr, hat, _⟩ := h1.lookup_int mlaw Yba.underlying50 Yba.underlying3 (zero3 w) (klit_key (((q % 5).toNat : Nat) : Int))
  have hq : (((q % 5).toNat : Nat) : Int) = q % 5 := by omega
  rw [h2 _ (by omega)] at hat
  rw [hq, tbl_mod] at hr
  rw [hr]
  simp only [DataW.lit.injEq, Lit.int.injEq, true_and] at hat
  rw [hat]

theorem MapIs.len {w : World} {B m : Nat} {sc : Nat → Int} {sp : Nat → Bool} (h : MapIs w B m sc sp) :
    ∃ s : Nat, (∀ ty, (Builtin.len_ #[50] ty #[.map (some B)]).run Yba.prog w = .ok (.int .i64 s) w) ∧ (s = 0 ↔ ∀ k : Nat, k < 5 → sp k = false) := by
  obtain ⟨D, h1, _, _, h4⟩ := h.ex
  exact ⟨size D, fun ty => h1.len Yba.underlying50 ty, h4⟩
end Go.Proofs.Ybulkasdy
