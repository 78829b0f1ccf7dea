/- The walk of the law of keyless tables. Seat b6001834aM. -/
import Derived.Test.Qxb6001834aModsKeyless
import Derived.WalkSpells
import Derived.Deep.QuietTactic
import Derived.BigQuiet
import Derived.Lib.Builder
namespace Go.Proofs.Qxb6001834aMods.Own
open Go.RowKit

theorem main_long (a : Option Addr) (n cap : Nat) (w : World) (hn : 65536 < n) :
    Calls Trym.prog 8 #[.slice a n cap] w fun e w' => e = .returned (.bool true) ∧ Below w.heap.size w w' := by
  go_enter Trym.func8, Trym.ntmps8
  go_wp2_with fail
  refine (bytes_some _ _ _ _).mono ?_
  rintro e w' ⟨⟨x, rfl⟩, hw⟩
  obtain rfl := hw.symm
  clear hw
  cases x
  all_goals
    go_wp2
    go_ret
    exact ⟨rfl, Below.refl _ _⟩

theorem ret_true {b : Bool} (h : b = true) : Ending.returned (.bool b) = .returned (.bool true) := by rw [h]
theorem info47 : (Trym.prog.info? 47).isSome = true := by kernel_rfl
theorem neq_same (w : World) (a : Addr) : (binOp .neq 48 (.pointer (some a)) (.pointer (some a))).run Trym.prog w = .ok (.bool false) w := by
  obtain ⟨j, hj⟩ := Option.isSome_iff_exists.1 info47
  exact Lib.run_neq_ptr_same w a Trym.underlying48 hj

set_option maxHeartbeats 400000 in
theorem main_short (a : Option Addr) (n cap : Nat) (zs : List Int) (w : World) (hn : n ≤ 65536) (hr : Hid (RowIn w a n cap zs)) :
    Calls Trym.prog 8 #[.slice a n cap] w fun e w' => e = .returned (.bool true) ∧ Below w.heap.size w w' := by
  go_enter Trym.func8, Trym.ntmps8
  go_wp2_with fail
  refine (bytes_yes _ _ _ _ hn).mono ?_
  rintro e w' ⟨rfl, hw⟩
  obtain rfl := hw.symm
  clear hw
  go_wp2_with fail
  refine (clone_ways _ _ _ zs _ hn hr.out).mono ?_
  rintro e w1 ⟨v, rfl, hb1, htab⟩
  generalize (fun i => zs.getD i 0) = z at htab
  go_wp2_with fail
  refine (htab.out).mono ?_
  rintro e w2 ⟨rfl, hT, hb2⟩
  clear htab
  have hbel2 : Below w.heap.size w w2 := hb1.trans (hb2.mono hb1.size)
  go_wp2_with fail
  refine (zzOrder_ways _ _ _ _ hT hn).mono ?_
  clear hb1 hb2 hT
  generalize w1.heap.size = B
  rintro e w3 (⟨h0, rfl, hs, hb3⟩ | ⟨g, c2, rfl, hg, hs, hb3⟩)
  · have hbel3 : Below w.heap.size w w3 := hbel2.trans (hb3.mono hbel2.size)
    have H0 : Hid ((kept z n).length = 0) := h0
    clear hb3 hbel2 h0
    go_wp2
    go_loopw [5, 6] (fun j i wr => ∃ k : Nat, k ≤ n ∧ i = .int .i64 k ∧ j = .int .i64 0 ∧ TableSeen wr B n z ∧ Below w.heap.size w wr) (fun _ i _ => n - (intOf i).toNat)
    case atStart => exact ⟨0, Nat.zero_le _, rfl, rfl, hs, hbel3⟩
    case round =>
      obtain ⟨k, hk, rfl, rfl, hsr, hbr⟩ := hrel
      have c1 := hsr.cols
      by_cases hlt : k < n
      · have c2 := hsr.row k hlt
        have c3 := hsr.kind k hlt
        have hc : Hid (takesB (z k) 0 = false) := by
          show takesB (z k) 0 = false
          rw [equal_takes]
          cases h : cmpB (z k) with
          | false => rfl
          | true => have := kept_lt h hlt; have := H0.out; omega
        go_wp2_with (go_at_call 32; refine (takes_any _ 0 false hc.out _).mono ?_; rintro e w' ⟨rfl, hw⟩; obtain rfl := hw.symm; clear hw)
        go_roundw
        case rel => exact ⟨k + 1, by omega, by go_num, rfl, hsr, hbr⟩
        case measure => simp [intOf]; omega
      · go_wp2
        go_ret
        exact ⟨rfl, hbr⟩
  · have hbel3 : Below w.heap.size w w3 := hbel2.trans (hb3.mono hbel2.size)
    clear hb3 hbel2
    generalize hM : (kept z n).length = M
    have HM : Hid ((kept z n).length = M) := hM
    have hM2 : M ≤ 65536 := by have := kept_le z n; omega
    clear hM
    go_wp2
    go_loopw [5, 6] (fun j i wr => ∃ k J : Nat, k ≤ n ∧ i = .int .i64 k ∧ j = .int .i64 J ∧ J = (kept z k).length ∧ (∀ j i, (kept z n)[j]? = some i → wr.cell? ⟨g, j, none⟩ = some (ptr B i)) ∧ TableSeen wr B n z ∧ Below w.heap.size w wr) (fun _ i _ => n - (intOf i).toNat)
    case atStart => exact ⟨0, 0, Nat.zero_le _, rfl, rfl, rfl, hg, hs, hbel3⟩
    case round =>
      obtain ⟨k, J, hk, rfl, rfl, hJ0, hgr, hsr, hbr⟩ := hrel
      have HJ : Hid (J = (kept z k).length) := hJ0
      have hJk : J ≤ k := by have := kept_le z k; omega
      clear hJ0
      have c1 := hsr.cols
      by_cases hlt : k < n
      · have c2 := hsr.row k hlt
        have c3 := hsr.kind k hlt
        cases hc0 : cmpB (z k) with
        | false =>
          have HC : Hid (cmpB (z k) = false) := hc0
          have hc : Hid (takesB (z k) 0 = false) := (equal_takes _).trans hc0
          clear hc0
          go_wp2_with (go_at_call 32; refine (takes_any _ 0 false hc.out _).mono ?_; rintro e w' ⟨rfl, hw⟩; obtain rfl := hw.symm; clear hw)
          go_roundw
          case rel => exact ⟨k + 1, J, by omega, by go_num, rfl, by rw [kept_miss HC.out]; exact HJ.out, hgr, hsr, hbr⟩
          case measure => simp [intOf]; omega
        | true =>
          have HC : Hid (cmpB (z k) = true) := hc0
          have hc : Hid (takesB (z k) 0 = true) := (equal_takes _).trans hc0
          have hJM : J < M := by have := kept_lt hc0 hlt; have := HM.out; have := HJ.out; omega
          have c4 : wr.cell? ⟨g, J, none⟩ = some (.pointer (some ⟨B + 1 + k, 0, none⟩)) := hgr J k (by rw [HJ.out]; exact kept_at hc0 n hlt)
          clear hc0
          have d1 : decide ((M : Int) ≤ (J : Int)) = false := by simp; omega
          go_wp2_with (go_at_call 32; refine (takes_any _ 0 true hc.out _).mono ?_; rintro e w' ⟨rfl, hw⟩; obtain rfl := hw.symm; clear hw)
          have hneq := neq_same
          go_quiet (fail)
          have hbq : Below wr.heap.size wr (wr.drewN nq) := ⟨rfl, rfl, rfl, Nat.le_refl _, fun _ _ => rfl⟩
          have R1 : Hid (∀ j i, (kept z n)[j]? = some i → (wr.drewN nq).cell? ⟨g, j, none⟩ = some (ptr B i)) := fun j i h => carry hbq (hgr j i h)
          have R2 : Hid (TableSeen (wr.drewN nq) B n z) := hsr.carry hbq
          have R3 : Hid (Below w.heap.size w (wr.drewN nq)) := hbr.trans ⟨rfl, rfl, rfl, Nat.le_refl _, fun _ _ => rfl⟩
          clear hgr hsr hbr hbq
          go_wp2
          go_roundw
          case rel => exact ⟨k + 1, J + 1, by omega, by go_num, by go_num, by rw [kept_hit HC.out, List.length_append, HJ.out]; rfl, R1.out, R2.out, R3.out⟩
          case measure => simp [intOf]; omega
      · have hkn : k = n := by omega
        subst hkn
        have e1 : Hid (J = M) := HJ.out.trans HM.out
        have e2 : Hid (((J : Int) == (M : Int)) = true) := by show ((J : Int) == (M : Int)) = true; rw [e1.out]; simp
        go_wp2
        go_ret
        exact ⟨ret_true e2.out, hbr⟩

end Go.Proofs.Qxb6001834aMods.Own
