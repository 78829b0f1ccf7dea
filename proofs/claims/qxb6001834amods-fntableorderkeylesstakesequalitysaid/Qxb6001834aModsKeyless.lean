/- What the law of keyless tables walks over: the clone and the table in one; the order by cases; the loop's plain facts. Seat b6001834aM. -/
import Derived.Test.Qxb6001834aModsRows
import Derived.Test.Qxb6001834aModsPlain
import Derived.Test.Qxb6001834aModsContracts
import Derived.Test.Qxb6001834aModsClone
import Derived.Test.Qxb6001834aModsTable
import Derived.Test.Qxb6001834aModsOrder
import Derived.WalkKit
import Derived.ProofKit
import Derived.OpenShut
import Derived.Below
namespace Go.Proofs.Qxb6001834aMods.Own
open Go.RowKit

theorem kept_at {z : Nat → Int} {k : Nat} (hc : cmpB (z k) = true) : ∀ n, k < n → (kept z n)[(kept z k).length]? = some k
  | 0, h => absurd h (by omega)
  | m + 1, h => by
    by_cases e : k = m
    · subst e
      rw [kept_hit hc]; simp
    · have ih := kept_at hc m (by omega)
      cases hm : cmpB (z m) with
      | false => rw [kept_miss hm]; exact ih
      | true =>
        rw [kept_hit hm, List.getElem?_append_left]
        · exact ih
        · exact (List.getElem?_eq_some_iff.1 ih).1
theorem kept_lt {z : Nat → Int} {k n : Nat} (hc : cmpB (z k) = true) (h : k < n) : (kept z k).length < (kept z n).length :=
  (List.getElem?_eq_some_iff.1 (kept_at hc n h)).1

theorem carry {w w' : World} (hb : Below w.heap.size w w') {a : Addr} {v : Value} (h : w.cell? a = some v) : w'.cell? a = some v :=
  (hb.cell (World.block_lt_of_cell? w a h)).trans h

/-- the cells of a table that the loop reads -/
structure TableSeen (w : World) (B n : Nat) (z : Nat → Int) : Prop where
  cols : w.cell? ⟨B + 1 + n, 1, none⟩ = some (.slice (some ⟨B, 0, none⟩) n n)
  row : ∀ i, i < n → w.cell? ⟨B, i, none⟩ = some (.pointer (some ⟨B + 1 + i, 0, none⟩))
  kind : ∀ i, i < n → w.cell? ⟨B + 1 + i, 1, none⟩ = some (.int .i64 (z i))
theorem TableSeen.carry {w w' : World} {B n : Nat} {z : Nat → Int} (h : TableSeen w B n z) (hb : Below w.heap.size w w') : TableSeen w' B n z :=
  ⟨Own.carry hb h.cols, fun i hi => Own.carry hb (h.row i hi), fun i hi => Own.carry hb (h.kind i hi)⟩

theorem zzOrder_ways (B n : Nat) (z : Nat → Int) (w : World) (hT : TableAt w B n z) (hn : n ≤ 65536) :
    Calls Trym.prog 31 #[.pointer (some ⟨B + 1 + n, 0, none⟩)] w fun e w' =>
      ((kept z n).length = 0 ∧ e = .returned (.slice none 0 0) ∧ TableSeen w' B n z ∧ Below w.heap.size w w') ∨
      (∃ g cap, e = .returned (.slice (some ⟨g, 0, none⟩) (kept z n).length cap) ∧ (∀ j i, (kept z n)[j]? = some i → w'.cell? ⟨g, j, none⟩ = some (ptr B i)) ∧ TableSeen w' B n z ∧ Below w.heap.size w w') := by
  refine (zzOrder_any B n z w hT hn).mono ?_
  rintro e w' ⟨v, rfl, hown, hbel⟩
  have hs : TableSeen w' B n z := TableSeen.carry ⟨hT.cols, hT.row, hT.kind⟩ hbel
  rcases hown.2 with ⟨rfl, h0⟩ | ⟨g, cap, cur, rfl, _⟩
  · exact .inl ⟨h0, rfl, hs, hbel⟩
  · refine .inr ⟨g, cap, rfl, fun j i hi => ?_, hs, hbel⟩
    have hj : j < (kept z n).length := (List.getElem?_eq_some_iff.1 hi).1
    rw [hown.cellAt j (by omega), List.getElem?_map, hi]
    rfl

/-- what is known of the slice that came in -/
def RowIn (w : World) (a : Option Addr) (len cap : Nat) (zs : List Int) : Prop :=
  (a = none ∧ len = 0 ∧ cap = 0) ∨ ∃ x, a = some x ∧ len ≤ zs.length ∧ ∀ i, i < zs.length → w.cell? (x.add i) = some (.int .i64 (zs.getD i 0))

/-- the clone, and what a table made of it is -/
theorem clone_ways (a : Option Addr) (n cap : Nat) (zs : List Int) (w : World) (hn : n ≤ 65536) (hr : RowIn w a n cap zs) :
    Calls Trym.prog 29 #[.slice a n cap] w fun e w1 => ∃ v, e = .returned v ∧ Below w.heap.size w w1 ∧
      Hid (Calls Trym.prog 30 #[v] w1 fun e w2 => e = .returned (.pointer (some ⟨w1.heap.size + 1 + n, 0, none⟩)) ∧ TableAt w2 w1.heap.size n (fun i => zs.getD i 0) ∧ Below w1.heap.size w1 w2) := by
  rcases hr with ⟨rfl, rfl, rfl⟩ | ⟨x, rfl, hl, hc⟩
  · refine (clone_nil w).mono ?_
    rintro e w1 ⟨rfl, rfl⟩
    exact ⟨_, rfl, Below.refl _ _, table_empty _ _ _ _⟩
  · by_cases h0 : n = 0
    · subst h0
      refine (clone_empty x cap w).mono ?_
      rintro e w1 ⟨rfl, hbel⟩
      exact ⟨_, rfl, hbel, table_empty _ _ _ _⟩
    · obtain ⟨b, off, rfl, hc'⟩ := ints_at hc (by omega)
      have hb : b < w.heap.size := World.block_lt_of_cell? w _ (hc' 0 (by omega))
      refine (clone_some b off n cap (fun i => zs.getD i 0) w hn hb (fun i hi => hc' i (by omega))).mono ?_
      rintro e w1 ⟨rfl, hrow, hbel⟩
      exact ⟨_, rfl, hbel, table_some _ _ _ _ _ hn hrow.lt (fun i hi => hrow.cell hi)⟩

end Go.Proofs.Qxb6001834aMods.Own
