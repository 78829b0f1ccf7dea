/- Contract of zzKeylessTable over seat b6001834aM's translation. -/
import Derived.Test.Qxb6001834aModsRows
import Derived.WalkKit
import Derived.ProofKit
import Derived.WalkSpells
import Derived.Below
import Derived.Deep.OwnRows
namespace Go.Proofs.Qxb6001834aMods.Own
open Go.RowKit

theorem info48 : (Trym.prog.info? 48).map (fun i => (i.zero, i.size, i.bytes)) = some (some (.pointer none), 1, 8) := by kernel_rfl

/-- the block of a column -/
def colObj (k : Int) : Obj :=
  .cells #[.string { data := #[99] }, .int .i64 k, .string { data := #[] }, .int .i64 0, .int .i64 0, .int .i64 0, .bool false, .bool false, .int .i64 0, .string { data := #[] }, .string { data := #[] }, .int .i64 0, .int .i64 0] 47
/-- the block of the table, its columns' row at block B -/
def tabObj (B n : Nat) : Obj :=
  .cells #[.string { data := #[116] }, .slice (some ⟨B, 0, none⟩) n n, .slice none 0 0, .bool false, .string { data := #[] }] 44

/-- a table of n columns: its row at block B, column i at block B + 1 + i, of kind z i, the table itself at block B + 1 + n -/
structure TableAt (w : World) (B n : Nat) (z : Nat → Int) : Prop where
  cols : w.cell? ⟨B + 1 + n, 1, none⟩ = some (.slice (some ⟨B, 0, none⟩) n n)
  key : w.cell? ⟨B + 1 + n, 2, none⟩ = some (.slice none 0 0)
  row : ∀ i, i < n → w.cell? ⟨B, i, none⟩ = some (.pointer (some ⟨B + 1 + i, 0, none⟩))
  kind : ∀ i, i < n → w.cell? ⟨B + 1 + i, 1, none⟩ = some (.int .i64 (z i))
  size : w.heap.size = B + 2 + n

theorem cell_old {w : World} {a : Addr} {v : Value} (h : w.cell? a = some v) (o : Obj) : (w.alloc o).cell? a = some v :=
  (World.cell?_of_block (Below.heap_alloc w o a.block (World.block_lt_of_cell? w a h))).trans h
theorem cell_else {w : World} {a p : Addr} (hne : a.block ≠ p.block) (u : Value) : (w.setCell p u).cell? a = w.cell? a :=
  World.cell?_of_block (Below.heap_setCell w p u a.block hne)

theorem step_rel {w wr : World} {n k : Nat} {z : Nat → Int} (hlt : k < n) (hsz : wr.heap.size = w.heap.size + 1 + k)
    (hrow : wr.rowIs w.heap.size 48 n (fun j => if j < k then .pointer (some ⟨w.heap.size + 1 + j, 0, none⟩) else .pointer none))
    (hkind : ∀ j, j < k → wr.cell? ⟨w.heap.size + 1 + j, 1, none⟩ = some (.int .i64 (z j))) (hbel : Below w.heap.size w wr) :
    ((wr.setCell ⟨w.heap.size, k, none⟩ (.pointer (some ⟨wr.heap.size, 0, none⟩))).alloc (colObj (z k))).heap.size = w.heap.size + 1 + (k + 1) ∧
    ((wr.setCell ⟨w.heap.size, k, none⟩ (.pointer (some ⟨wr.heap.size, 0, none⟩))).alloc (colObj (z k))).rowIs w.heap.size 48 n (fun j => if j < k + 1 then .pointer (some ⟨w.heap.size + 1 + j, 0, none⟩) else .pointer none) ∧
    (∀ j, j < k + 1 → ((wr.setCell ⟨w.heap.size, k, none⟩ (.pointer (some ⟨wr.heap.size, 0, none⟩))).alloc (colObj (z k))).cell? ⟨w.heap.size + 1 + j, 1, none⟩ = some (.int .i64 (z j))) ∧
    Below w.heap.size w ((wr.setCell ⟨w.heap.size, k, none⟩ (.pointer (some ⟨wr.heap.size, 0, none⟩))).alloc (colObj (z k))) := by
  have hs2 : (wr.setCell ⟨w.heap.size, k, none⟩ (.pointer (some ⟨wr.heap.size, 0, none⟩))).heap.size = w.heap.size + 1 + k := by
    rw [Deep.nblk_setCell]; exact hsz
  refine ⟨by rw [Deep.nblk_alloc, hs2]; omega, ?_, ?_, ?_⟩
  · refine (World.rowIs.alloc (hrow.set k _) _).congr (fun j hj => ?_)
    rw [hsz]
    by_cases e : j = k
    · subst e; simp
    · by_cases h : j < k
      · simp [e, h, Nat.lt_succ_of_lt h]
      · have : ¬ j < k + 1 := by omega
        simp [e, h, this]
  · intro j hj
    by_cases e : j = k
    · subst e
      rw [← hs2]
      unfold colObj
      go_simp
    · exact cell_old ((cell_else (by simp; omega) _).trans (hkind j (by omega))) _
  · exact (hbel.setCell (by exact Nat.le_refl _) _).alloc (by rw [hs2]; omega) _

theorem end_rel {w wr : World} {n : Nat} {z : Nat → Int} (hsz : wr.heap.size = w.heap.size + 1 + n)
    (hrow : wr.rowIs w.heap.size 48 n (fun j => if j < n then .pointer (some ⟨w.heap.size + 1 + j, 0, none⟩) else .pointer none))
    (hkind : ∀ j, j < n → wr.cell? ⟨w.heap.size + 1 + j, 1, none⟩ = some (.int .i64 (z j))) (hbel : Below w.heap.size w wr) :
    TableAt (wr.alloc (tabObj w.heap.size n)) w.heap.size n z ∧ Below w.heap.size w (wr.alloc (tabObj w.heap.size n)) := by
  refine ⟨⟨?_, ?_, ?_, ?_, ?_⟩, hbel.alloc (by omega) _⟩
  · rw [← hsz]; unfold tabObj; go_simp
  · rw [← hsz]; unfold tabObj; go_simp
  · intro i hi
    have := hrow.cell hi
    rw [if_pos hi] at this
    exact cell_old this _
  · exact fun i hi => cell_old (hkind i hi) _
  · rw [Deep.nblk_alloc, hsz]; omega

theorem table_some (b n cap : Nat) (z : Nat → Int) (w : World) (hn : n ≤ 65536) (hb : b < w.heap.size)
    (hc : ∀ i, i < n → w.cell? ⟨b, i, none⟩ = some (.int .i64 (z i))) :
    Calls Trym.prog 30 #[.slice (some ⟨b, 0, none⟩) n cap] w fun e w' => e = .returned (.pointer (some ⟨w.heap.size + 1 + n, 0, none⟩)) ∧ TableAt w' w.heap.size n z ∧ Below w.heap.size w w' := by
  have hmk := run_make_row' (P := Trym.prog) 41 48 (.pointer none) 8 Trym.underlying41 info48 rfl .i64 .i64 n (by omega) (by omega)
  go_enter Trym.func30, Trym.ntmps30
  go_wp2
  go_loopw [4] (fun i wr => ∃ k : Nat, k ≤ n ∧ i = .int .i64 k ∧ wr.heap.size = w.heap.size + 1 + k ∧ wr.rowIs w.heap.size 48 n (fun j => if j < k then .pointer (some ⟨w.heap.size + 1 + j, 0, none⟩) else .pointer none) ∧ (∀ j, j < k → wr.cell? ⟨w.heap.size + 1 + j, 1, none⟩ = some (.int .i64 (z j))) ∧ Below w.heap.size w wr)
    (fun i _ => n - (intOf i).toNat)
  case atStart => exact ⟨0, Nat.zero_le _, rfl, by simp, (World.rowIs_made w (.pointer none) n 48).congr (fun i _ => by simp), fun j hj => absurd hj (by omega), (Below.refl _ _).alloc (Nat.le_refl _) _⟩
  case round =>
    obtain ⟨k, hk, rfl, hsz0, hrow, hkind, hbel⟩ := hrel
    have hsz : Hid (wr.heap.size = w.heap.size + 1 + k) := hsz0
    have hlt2 : w.heap.size < wr.heap.size := by omega
    clear hsz0
    by_cases hlt : k < n
    · have hcx : wr.cell? ⟨b, k, none⟩ = some (.int .i64 (z k)) := (hbel.cell (by exact hb)).trans (hc k hlt)
      have hck := hrow.cell hlt
      have hfz := hrow.frozen k
      have hb2 : b < wr.heap.size := by omega
      have R := step_rel hlt hsz.out hrow hkind hbel
      have R1 : Hid (_) := R
      clear R hkind hrow hbel
      go_wp2
      go_roundw
      case rel => exact ⟨k + 1, by omega, by go_num, R1.out.1, R1.out.2.1, R1.out.2.2.1, R1.out.2.2.2⟩
      case measure => simp [intOf]; omega
    · have hkn : k = n := by omega
      subst hkn
      have R := end_rel hsz.out hrow hkind hbel
      have R1 : Hid (_) := R
      have R2 : Hid (_) := hsz.out
      clear R hkind hrow hbel
      go_wp2
      go_ret
      exact ⟨by show Ending.returned (Value.pointer (some ⟨wr.heap.size, 0, none⟩)) = _; rw [R2.out], R1.out.1, R1.out.2⟩

theorem table_empty (a : Option Addr) (cap : Nat) (z : Nat → Int) (w : World) :
    Calls Trym.prog 30 #[.slice a 0 cap] w fun e w' => e = .returned (.pointer (some ⟨w.heap.size + 1 + 0, 0, none⟩)) ∧ TableAt w' w.heap.size 0 z ∧ Below w.heap.size w w' := by
  have hmk : ∀ w, (Instr.makeSlice 41 (.int .i64 0) (.int .i64 0)).run Trym.prog w = .ok (.slice (some ⟨w.heap.size, 0, none⟩) 0 0) (w.alloc (.cells (madeCells #[.pointer none] 0) 48)) :=
    run_make_row' (P := Trym.prog) 41 48 (.pointer none) 8 Trym.underlying41 info48 rfl .i64 .i64 0 (by omega) (by omega)
  have R : Hid (_) := end_rel (w := w) (wr := w.alloc (.cells (madeCells #[.pointer none] 0) 48)) (n := 0) (z := z) (by simp) ((World.rowIs_made w (.pointer none) 0 48).congr (fun i hi => absurd hi (by omega))) (fun j hj => absurd hj (by omega)) ((Below.refl _ _).alloc (Nat.le_refl _) _)
  go_enter Trym.func30, Trym.ntmps30
  go_wp2
  refine wp_loop_rounds 1 ?_
  rw [rounds_succ]
  go_wp2
  go_ret
  exact ⟨rfl, R.out.1, R.out.2⟩

end Go.Proofs.Qxb6001834aMods.Own
