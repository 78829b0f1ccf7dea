/- Contracts of zzBytes and zzCloneInts over seat b6001834aM's translation. -/
import Derived.Test.Qxb6001834aModsRows
import Derived.WalkKit
import Derived.ProofKit
import Derived.WalkSpells
import Derived.Below
import Derived.Deep.OwnRows
namespace Go.Proofs.Qxb6001834aMods.Own
open Go.RowKit

theorem info3 : (Trym.prog.info? 3).map (fun i => (i.zero, i.size, i.bytes)) = some (some (.int .i64 0), 1, 8) := by kernel_rfl

theorem bytes_some (a : Option Addr) (n c : Nat) (w : World) :
    Calls Trym.prog 28 #[.slice a n c] w fun e w' => (∃ x, e = .returned (.bool x)) ∧ w' = w := by
  go_enter Trym.func28, Trym.ntmps28
  go_wp2
  all_goals
    go_ret
    exact ⟨⟨_, rfl⟩, rfl⟩
theorem bytes_yes (a : Option Addr) (n c : Nat) (w : World) (hn : n ≤ 65536) :
    Calls Trym.prog 28 #[.slice a n c] w fun e w' => e = .returned (.bool true) ∧ w' = w := by
  go_enter Trym.func28, Trym.ntmps28
  go_wp2
  go_ret
  exact ⟨rfl, rfl⟩

theorem clone_nil (w : World) :
    Calls Trym.prog 29 #[.slice none 0 0] w fun e w' => e = .returned (.slice none 0 0) ∧ w' = w := by
  have heq := fun w => Lib.run_eql_slice_nil (P := Trym.prog) w 36 3 none 0 0 0 0 Trym.underlying36
  go_enter Trym.func29, Trym.ntmps29
  go_wp2
  go_ret
  exact ⟨rfl, rfl⟩

theorem clone_some (b off n cap : Nat) (z : Nat → Int) (w : World) (hn : n ≤ 65536) (hb : b < w.heap.size)
    (hc : ∀ i, i < n → w.cell? ⟨b, off + i, none⟩ = some (.int .i64 (z i))) :
    Calls Trym.prog 29 #[.slice (some ⟨b, off, none⟩) n cap] w fun e w' => e = .returned (.slice (some ⟨w.heap.size, 0, none⟩) n n) ∧ w'.rowIs w.heap.size 3 n (fun i => .int .i64 (z i)) ∧ Below w.heap.size w w' := by
  have heq := fun w => Lib.run_eql_slice_nil (P := Trym.prog) w 36 3 (some ⟨b, off, none⟩) n cap 0 0 Trym.underlying36
  have hmk := run_make_row' (P := Trym.prog) 36 3 (.int .i64 0) 8 Trym.underlying36 info3 rfl .i64 .i64 n (by omega) (by omega)
  go_enter Trym.func29, Trym.ntmps29
  go_wp2
  go_loopw [4] (fun i wr => ∃ k : Nat, k ≤ n ∧ i = .int .i64 k ∧ wr.rowIs w.heap.size 3 n (fun j => if j < k then .int .i64 (z j) else .int .i64 0) ∧ Below w.heap.size w wr)
    (fun i _ => n - (intOf i).toNat)
  case atStart => exact ⟨0, Nat.zero_le _, rfl, (World.rowIs_made w (.int .i64 0) n 3).congr (fun i _ => by simp), (Below.refl _ _).alloc (Nat.le_refl _) _⟩
  case round =>
    obtain ⟨k, hk, rfl, hrow, hbel⟩ := hrel
    by_cases hlt : k < n
    · have hcx : wr.cell? ⟨b, off + k, none⟩ = some (.int .i64 (z k)) := (hbel.cell (by exact hb)).trans (hc k hlt)
      have hck := hrow.cell hlt
      have hfz := hrow.frozen k
      have R := hrow.set k (.int .i64 (z k))
      have R2 := hbel.setCell (p := ⟨w.heap.size, k, none⟩) (Nat.le_refl _) (.int .i64 (z k))
      have R1 : Hid ((wr.setCell ⟨w.heap.size, k, none⟩ (.int .i64 (z k))).rowIs w.heap.size 3 n (fun j => if j < k + 1 then .int .i64 (z j) else .int .i64 0)) := R.congr (fun j _ => by
        by_cases e : j = k
        · subst e; simp
        · by_cases h : j < k
          · simp [e, h, Nat.lt_succ_of_lt h]
          · have : ¬ j < k + 1 := by omega
            simp [e, h, this])
      have R3 : Hid (Below w.heap.size w (wr.setCell ⟨w.heap.size, k, none⟩ (.int .i64 (z k)))) := R2
      clear R R2
      go_wp2
      go_roundw
      case rel => exact ⟨k + 1, by omega, by go_num, R1.out, R3.out⟩
      case measure => simp [intOf]; omega
    · go_wp2
      go_ret
      exact ⟨rfl, hrow.congr (fun j hj => by simp [show j < k by omega]), hbel⟩

theorem clone_empty (x : Addr) (cap : Nat) (w : World) :
    Calls Trym.prog 29 #[.slice (some x) 0 cap] w fun e w' => e = .returned (.slice (some ⟨w.heap.size, 0, none⟩) 0 0) ∧ Below w.heap.size w w' := by
  have heq := fun w => Lib.run_eql_slice_nil (P := Trym.prog) w 36 3 (some x) 0 cap 0 0 Trym.underlying36
  have hmk : ∀ w, (Instr.makeSlice 36 (.int .i64 0) (.int .i64 0)).run Trym.prog w = .ok (.slice (some ⟨w.heap.size, 0, none⟩) 0 0) (w.alloc (.cells (madeCells #[.int .i64 0] 0) 3)) :=
    run_make_row' (P := Trym.prog) 36 3 (.int .i64 0) 8 Trym.underlying36 info3 rfl .i64 .i64 0 (by omega) (by omega)
  go_enter Trym.func29, Trym.ntmps29
  go_wp2
  refine wp_loop_rounds 1 ?_
  rw [rounds_succ]
  go_wp2
  go_ret
  exact ⟨rfl, (Below.refl _ _).alloc (Nat.le_refl _) _⟩

end Go.Proofs.Qxb6001834aMods.Own
