/-
  A proof of 'Rows.FnKindTakesAgreesWithAggregatesSaid'. The frame is the seat's shell (written by program); the walk and the theorem 'closed' (the row's closed facts one by one, for the kernel's memory) are this seat's own.
-/
import Derived.Test.Qxb6001834aModsRows
import Derived.Test.Qxb6001834aModsHead
import Derived.Test.Qxb6001834aModsPlain
import Derived.Test.Qxb6001834aModsContracts
import Derived.WalkKit
import Derived.ProofKit
import Derived.OpenShut
import Derived.ShutString
namespace Go.Proofs.Qxb6001834aMods.fnKindTakesAgreesWithAggregates
open Go.ChangeShapes Go.WideShapes Go.ChangeAt Go.RowKit
open Go.ChangeMaps (open_string shut_string)
set_option linter.unusedVariables false      -- a walk need not use every 'w<i>' (that an integer argument fits its kind)

theorem own : ownKnob Trym.prog.godebug = none := by kernel_rfl

open Own

theorem walk_at (a0 : Int) (w : World) (x y s : Bool) (hx : Hid (takesB a0 2 = x)) (hy : Hid (takesB a0 6 = y)) (hm : Hid (minB a0 = (x || y))) (hs : Hid (sumB a0 = s)) (hsx : s = true → x = true) :
    Calls Trym.prog 11 #[.int .i64 a0] w fun e w' => e = .returned (.bool true) ∧ w' = w := by
  cases x <;> cases y <;> cases s
  all_goals first | (exact absurd (hsx rfl) (by decide)) | skip
  all_goals clear hsx
  · go_enter Trym.func11, Trym.ntmps11
    go_wp2_with fail
    refine (takes_any _ 2 false hx.out _).mono ?_
    rintro e w' ⟨rfl, rfl⟩
    go_wp2_with fail
    refine (takes_any _ 6 false hy.out _).mono ?_
    rintro e w' ⟨rfl, rfl⟩
    go_wp2_with fail
    refine (min_any _ _ false hm.out).mono ?_
    rintro e w' ⟨rfl, rfl⟩
    go_wp2_with fail
    refine (max_any _ _ false hm.out).mono ?_
    rintro e w' ⟨rfl, rfl⟩
    go_wp2_with fail
    refine (sum_any _ _ false hs.out).mono ?_
    rintro e w' ⟨rfl, rfl⟩
    go_wp2
    go_ret
    exact ⟨rfl, rfl⟩
  · go_enter Trym.func11, Trym.ntmps11
    go_wp2_with fail
    refine (takes_any _ 2 false hx.out _).mono ?_
    rintro e w' ⟨rfl, rfl⟩
    go_wp2_with fail
    refine (takes_any _ 6 true hy.out _).mono ?_
    rintro e w' ⟨rfl, rfl⟩
    go_wp2_with fail
    refine (min_any _ _ true hm.out).mono ?_
    rintro e w' ⟨rfl, rfl⟩
    go_wp2_with fail
    refine (max_any _ _ true hm.out).mono ?_
    rintro e w' ⟨rfl, rfl⟩
    go_wp2_with fail
    refine (sum_any _ _ false hs.out).mono ?_
    rintro e w' ⟨rfl, rfl⟩
    go_wp2
    go_ret
    exact ⟨rfl, rfl⟩
  · go_enter Trym.func11, Trym.ntmps11
    go_wp2_with fail
    refine (takes_any _ 2 true hx.out _).mono ?_
    rintro e w' ⟨rfl, rfl⟩
    go_wp2_with fail
    refine (takes_any _ 6 false hy.out _).mono ?_
    rintro e w' ⟨rfl, rfl⟩
    go_wp2_with fail
    refine (min_any _ _ true hm.out).mono ?_
    rintro e w' ⟨rfl, rfl⟩
    go_wp2_with fail
    refine (max_any _ _ true hm.out).mono ?_
    rintro e w' ⟨rfl, rfl⟩
    go_wp2_with fail
    refine (sum_any _ _ false hs.out).mono ?_
    rintro e w' ⟨rfl, rfl⟩
    go_wp2
    go_ret
    exact ⟨rfl, rfl⟩
  · go_enter Trym.func11, Trym.ntmps11
    go_wp2_with fail
    refine (takes_any _ 2 true hx.out _).mono ?_
    rintro e w' ⟨rfl, rfl⟩
    go_wp2_with fail
    refine (takes_any _ 6 false hy.out _).mono ?_
    rintro e w' ⟨rfl, rfl⟩
    go_wp2_with fail
    refine (min_any _ _ true hm.out).mono ?_
    rintro e w' ⟨rfl, rfl⟩
    go_wp2_with fail
    refine (max_any _ _ true hm.out).mono ?_
    rintro e w' ⟨rfl, rfl⟩
    go_wp2_with fail
    refine (sum_any _ _ true hs.out).mono ?_
    rintro e w' ⟨rfl, rfl⟩
    go_wp2
    go_ret
    exact ⟨rfl, rfl⟩
  · go_enter Trym.func11, Trym.ntmps11
    go_wp2_with fail
    refine (takes_any _ 2 true hx.out _).mono ?_
    rintro e w' ⟨rfl, rfl⟩
    go_wp2_with fail
    refine (takes_any _ 6 true hy.out _).mono ?_
    rintro e w' ⟨rfl, rfl⟩
    go_wp2_with fail
    refine (min_any _ _ true hm.out).mono ?_
    rintro e w' ⟨rfl, rfl⟩
    go_wp2_with fail
    refine (max_any _ _ true hm.out).mono ?_
    rintro e w' ⟨rfl, rfl⟩
    go_wp2_with fail
    refine (sum_any _ _ false hs.out).mono ?_
    rintro e w' ⟨rfl, rfl⟩
    go_wp2
    go_ret
    exact ⟨rfl, rfl⟩
  · go_enter Trym.func11, Trym.ntmps11
    go_wp2_with fail
    refine (takes_any _ 2 true hx.out _).mono ?_
    rintro e w' ⟨rfl, rfl⟩
    go_wp2_with fail
    refine (takes_any _ 6 true hy.out _).mono ?_
    rintro e w' ⟨rfl, rfl⟩
    go_wp2_with fail
    refine (min_any _ _ true hm.out).mono ?_
    rintro e w' ⟨rfl, rfl⟩
    go_wp2_with fail
    refine (max_any _ _ true hm.out).mono ?_
    rintro e w' ⟨rfl, rfl⟩
    go_wp2_with fail
    refine (sum_any _ _ true hs.out).mono ?_
    rintro e w' ⟨rfl, rfl⟩
    go_wp2
    go_ret
    exact ⟨rfl, rfl⟩

/-! ### STEP 1: THE WALK: the Go text returns true and writes nothing that was there. -/
theorem walk (a0 : Int) (w0 : (Lit.int .i64 a0).wf = true) (w : World) :
    Calls Trym.prog 11 #[.int .i64 a0] w fun e w' => e = .returned (.bool true) ∧ Grown w w' := by
  exact (walk_at a0 w _ _ _ rfl rfl (min_takes a0) rfl (sum_takes a0)).mono fun e w' ⟨he, hw⟩ => ⟨he, hw ▸ Grown.refl _⟩

/-! ### THE ROW's STEP: WRITTEN OUT: LEAVE IT -/
set_option maxRecDepth 100000 in
theorem lifted (os : Os) (started : os.Started) (H : Type) (enc : TypeId × Value → H) :
    ReturnsInHanded {} Trym.checked os 11 .any (Rows.fnKindTakesAgreesWithAggregatesSpec.pre6 enc Trym.prog Trym.f11 Rows.fnKindTakesAgreesWithAggregatesRow.domain false) (Rows.fnKindTakesAgreesWithAggregatesSpec.post enc Trym.prog Trym.f11 false true false false) := by
  refine returnsInHanded_of_change (C := Trym.checked) own started (by kernel_rfl) Trym.func11
    (ChangeSpec.witness6 (enc := enc) (C := Trym.checked) false ⟨#[], #[.int .i64 0], []⟩ 8 (by kernel_rfl) (by kernel_rfl) (by kernel_rfl) (by kernel_rfl)) ?_
  intro W base args ds gs before hval0 hW hcnd _
  have hval : ∀ (j : Nat) t v, Trym.f11.params[j]? = some t → args[j]? = some v → Value.okWide Trym.prog W .any base t v := hval0
  have hW' := hW
  obtain ⟨p, q, hA0, hV, rfl, hfz, hnd⟩ := hW
  have hA : DataW.TrodAll enc Trym.prog W 0 (fun _ => true) true Trym.f11.params.toList args.toList ds p := hA0
  rw [Trym.params11] at hA hval
  obtain ⟨v0, vs0, d0, ds0, p0, q0, hargs, rfl, rfl, h0, r0⟩ := trodAll_cons hA
  obtain ⟨rfl, rfl, rfl⟩ := trodAll_nil r0
  obtain rfl : args = #[v0] := by cases args; simp_all
  obtain ⟨rfl, rfl⟩ := trodVars_none hV
  obtain ⟨a0, rfl, rfl, rfl, w0⟩ := open_int Trym.underlying3 (hval 0 3 v0 rfl rfl) h0
  clear hA0 hval0
  simp only [List.append_nil] at hW'
  refine (walk a0 w0 W).mono fun e W' ⟨he, hg⟩ => ?_
  subst he
  exact ⟨_, rfl, post_of_same (pa := []) (pv := []) hW' (fun _ _ _ => (trodAll_cons_mk (shut_bool Trym.underlying4 _) trodAll_mk0)) (fun sp _ => (trodAll_cons_mk (shut_int Trym.underlying3 w0) trodAll_mk0)) (fun _ _ => rfl) rfl
    (hg.frame _) hg.2.1 (ok_one (by kernel_rfl) rfl (okWide_bool_mk Trym.underlying4 _))⟩

theorem closed : joinedFacts Trym.prog 11 Trym.f11 Rows.fnKindTakesAgreesWithAggregatesSpec Rows.fnKindTakesAgreesWithAggregatesRow = true := by
  unfold joinedFacts
  simp only [Bool.and_eq_true]
  exact ⟨⟨⟨⟨⟨⟨⟨⟨⟨⟨⟨⟨⟨⟨⟨⟨⟨⟨⟨⟨⟨⟨⟨⟨⟨⟨⟨⟨⟨⟨⟨by kernel_rfl, by kernel_rfl⟩, by kernel_rfl⟩, by kernel_rfl⟩, by kernel_rfl⟩, by kernel_rfl⟩, by kernel_rfl⟩, by kernel_rfl⟩, by kernel_rfl⟩, by kernel_rfl⟩, by kernel_rfl⟩, by kernel_rfl⟩, by kernel_rfl⟩, by kernel_rfl⟩, by kernel_rfl⟩, by kernel_rfl⟩, by kernel_rfl⟩, by kernel_rfl⟩, by kernel_rfl⟩, by kernel_rfl⟩, by kernel_rfl⟩, by kernel_rfl⟩, by kernel_rfl⟩, by kernel_rfl⟩, by kernel_rfl⟩, Own.mayEnter⟩, by rw [Own.liftsFinal]; kernel_rfl⟩, by rw [Own.made]; kernel_rfl⟩, by kernel_rfl⟩, by kernel_rfl⟩, by kernel_rfl⟩, by kernel_rfl⟩

theorem over : Rows.fnKindTakesAgreesWithAggregatesRow.holds Trym.pinned (OpenSpec.ofChange Rows.fnKindTakesAgreesWithAggregatesSpec) :=
  OpenClaim.holds_of_wide 11 Trym.f11 rfl rfl rfl rfl rfl rfl rfl ⟨rfl, rfl, rfl, rfl, rfl⟩ rfl rfl rfl rfl rfl (by kernel_rfl) Trym.func11 closed
    (of_decide_eq_true (by kernel_rfl)) (by unfold Func.isWrapper; first | (rw [if_pos (by decide +kernel)]; kernel_rfl) | (rw [if_neg (by decide +kernel)]; exact ⟨rfl, rfl⟩))
    (fun os started H enc _ => lifted os started H enc)

/-- ████ THE STATEMENT ████ -/
theorem proved : Rows.FnKindTakesAgreesWithAggregatesSaid :=
  over
end Go.Proofs.Qxb6001834aMods.fnKindTakesAgreesWithAggregates
