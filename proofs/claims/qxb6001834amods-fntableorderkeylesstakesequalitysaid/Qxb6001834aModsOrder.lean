/- Contracts of (*Table).order and ZZTableOrder over seat b6001834aM's translation. -/
import Derived.Test.Qxb6001834aModsRows
import Derived.Test.Qxb6001834aModsPlain
import Derived.Test.Qxb6001834aModsContracts
import Derived.Test.Qxb6001834aModsTable
import Derived.WalkKit
import Derived.ProofKit
import Derived.WalkSpells
import Derived.Below
namespace Go.Proofs.Qxb6001834aMods.Own
open Go.RowKit

/-- of the first k columns those whose kind is Comparable -/
def kept (z : Nat → Int) (k : Nat) : List Nat := (List.range k).filter (fun i => cmpB (z i))
def ptr (B i : Nat) : Value := .pointer (some ⟨B + 1 + i, 0, none⟩)
theorem kept_hit {z : Nat → Int} {k : Nat} (h : cmpB (z k) = true) : kept z (k + 1) = kept z k ++ [k] := by
  simp [kept, List.range_succ, List.filter_append, h]
theorem kept_miss {z : Nat → Int} {k : Nat} (h : cmpB (z k) = false) : kept z (k + 1) = kept z k := by
  simp [kept, List.range_succ, List.filter_append, h]
theorem kept_le (z : Nat → Int) (k : Nat) : (kept z k).length ≤ k := by
  have := List.length_filter_le (fun i => cmpB (z i)) (List.range k)
  simpa [kept] using this

theorem keep_rel {z : Nat → Int} {B k : Nat} {w wr w1 : World} {o : Obj} {v v' : Value} (h : cmpB (z k) = true) (hbel : Below w.heap.size w wr)
    (hown : wr.ownsRow w.heap.size 48 1 v (kept z k).length ((kept z k).map (ptr B)))
    (hown' : w1.ownsRow w.heap.size 48 1 v' ((kept z k).length + 1) ((kept z k).map (ptr B) ++ [ptr B k])) (hgrow : (wr.alloc o).grownBy w1 v.ownBlock) :
    w1.ownsRow w.heap.size 48 1 v' (kept z (k + 1)).length ((kept z (k + 1)).map (ptr B)) ∧ Below w.heap.size w w1 := by
  refine ⟨?_, ?_⟩
  · rw [kept_hit h, List.length_append, List.map_append]
    exact hown'
  · refine (hbel.alloc hbel.size o).grown hgrow (by have := hbel.size; rw [Deep.nblk_alloc]; omega) (fun i hi => (hown.lt i hi).1)

set_option maxHeartbeats 400000 in
theorem order_any (B n : Nat) (z : Nat → Int) (w : World) (hT : TableAt w B n z) (hn : n ≤ 65536) :
    Calls Trym.prog 43 #[.pointer (some ⟨B + 1 + n, 0, none⟩)] w fun e w' =>
      ∃ v, e = .returned v ∧ w'.ownsRow w.heap.size 48 1 v (kept z n).length ((kept z n).map (ptr B)) ∧ Below w.heap.size w w' := by
  obtain ⟨i0, hi, hz0, hz1, hz2⟩ := info_parts info48
  have t1 := hT.cols
  have t2 := hT.key
  have hsz : Hid (w.heap.size = B + 2 + n) := hT.size
  go_enter Trym.func43, Trym.ntmps43
  go_wp2
  go_loopw [3, 21] (fun v i wr => ∃ k : Nat, k ≤ n ∧ i = .int .i64 k ∧ wr.ownsRow w.heap.size 48 1 v (kept z k).length ((kept z k).map (ptr B)) ∧ Below w.heap.size w wr)
    (fun _ i _ => n - (intOf i).toNat)
  case atStart => exact ⟨0, Nat.zero_le _, rfl, World.ownsRow_nil _ _ _ _, Below.refl _ _⟩
  case round =>
    obtain ⟨k, hk, rfl, hown, hbel⟩ := hrel
    clear t1 t2
    by_cases hlt : k < n
    · have hcr : wr.cell? ⟨B, k, none⟩ = some (.pointer (some ⟨B + 1 + k, 0, none⟩)) := (hbel.cell (by have := hsz.out; show B < _; omega)).trans (hT.row k hlt)
      have hck : wr.cell? ⟨B + 1 + k, 1, none⟩ = some (.int .i64 (z k)) := (hbel.cell (by have := hsz.out; show B + 1 + k < _; omega)).trans (hT.kind k hlt)
      have hlen := kept_le z k
      cases hc0 : cmpB (z k) with
      | true =>
        have hc : Hid (cmpB (z k) = true) := hc0
        clear hc0
        go_wp2_with (first | (go_at_call 36; refine (comparable_any _ true hc.out _).mono ?_; rintro e w' ⟨rfl, hw⟩; obtain rfl := hw.symm; clear hw) | (at_builtin; refine wpList_append_own _ rfl _ _ 41 rfl w.heap.size 48 i0 (.pointer none) 1 8 Trym.underlying41 hi hz0 hz1 hz2 rfl (by decide) _ _ _ rfl (hown.alloc _) ⟨wr.heap.size, 0, none⟩ 1 1 [ptr B k] rfl rfl ?c1 ?c2 ?c3 ?c4 ?c5 ?_))
        case c1 =>
          intro j u hj
          match j, hj with
          | 0, hj => simp at hj; subst hj; simp [Addr.add, ptr]
        case c2 => intro u hu; simp at hu; subst hu; rfl
        case c3 => unfold maxLen; omega
        case c4 => omega
        case c5 => have := hbel.size; simp; omega
        · intro v' w1 hown' hgrow _
          have R : Hid (_) := keep_rel hc.out hbel hown hown' hgrow
          clear hown' hgrow hown hbel hcr hck
          go_wp2
          go_roundw
          case rel => exact ⟨k + 1, by omega, by go_num, R.out.1, R.out.2⟩
          case measure => simp [intOf]; omega
      | false =>
        have hc : Hid (cmpB (z k) = false) := hc0
        clear hc0
        go_wp2_with (go_at_call 36; refine (comparable_any _ false hc.out _).mono ?_; rintro e w' ⟨rfl, hw⟩; obtain rfl := hw.symm; clear hw)
        go_roundw
        case rel => exact ⟨k + 1, by omega, by go_num, by rw [kept_miss hc.out]; exact hown, hbel⟩
        case measure => simp [intOf]; omega
    · go_wp2
      go_ret
      have hkn : k = n := by omega
      subst hkn
      exact ⟨_, rfl, hown, hbel⟩

theorem zzOrder_any (B n : Nat) (z : Nat → Int) (w : World) (hT : TableAt w B n z) (hn : n ≤ 65536) :
    Calls Trym.prog 31 #[.pointer (some ⟨B + 1 + n, 0, none⟩)] w fun e w' =>
      ∃ v, e = .returned v ∧ w'.ownsRow w.heap.size 48 1 v (kept z n).length ((kept z n).map (ptr B)) ∧ Below w.heap.size w w' := by
  go_enter Trym.func31, Trym.ntmps31
  go_wp2_with fail
  refine (order_any B n z _ hT hn).mono ?_
  rintro e w' ⟨v, rfl, hown, hbel⟩
  go_wp2
  go_ret
  exact ⟨_, rfl, hown, hbel⟩

end Go.Proofs.Qxb6001834aMods.Own
