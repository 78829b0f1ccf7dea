/-
  A proof of 'Rows.FnOpOrderedIsWhatNumbersTakeAndBooleansRefuseSaid'. The frame is the seat's shell (written by program); the walk and the theorem 'closed' (the row's closed facts one by one, for the kernel's memory) are this seat's own.
-/
import Derived.Test.Qxb6001833aModsRows
import Derived.Test.Qxb6001833aModsHead
import Derived.Test.Qxb6001833aModsPlain
import Derived.Test.Qxb6001833aModsContracts
import Derived.WalkKit
import Derived.ProofKit
import Derived.OpenShut
import Derived.ShutString
namespace Go.Proofs.Qxb6001833aMods.fnOpOrderedIsWhatNumbersTakeAndBooleansRefuse
open Go.ChangeShapes Go.WideShapes Go.ChangeAt Go.RowKit
open Go.ChangeMaps (open_string shut_string)
set_option linter.unusedVariables false      -- a walk need not use every 'w<i>' (that an integer argument fits its kind)

theorem own : ownKnob Trym.prog.godebug = none := by kernel_rfl

open Own in
theorem walk_ord (a0 : Int) (w : World) (ho : Hid (ordB a0 = true)) :
    Calls Trym.prog 3 #[.int .i64 a0] w fun e w' => e = .returned (.bool true) ∧ w' = w := by
  have h : Hid (takesB 4 a0 = false ∧ takesB 0 a0 = true ∧ takesB 1 a0 = true ∧ takesB 3 a0 = true ∧ takesB 2 a0 = false) := takes_bool_ord ho.out
  go_enter Trym.func3, Trym.ntmps3
  go_wp2_with fail
  refine (zzOrdered_any _ true ho _).mono ?_
  rintro e w' ⟨rfl, rfl⟩
  go_wp2_with fail
  refine (takes_any 4 _ false h.out.1 _).mono ?_
  rintro e w' ⟨rfl, rfl⟩
  go_wp2_with fail
  refine (takes_any 0 _ true h.out.2.1 _).mono ?_
  rintro e w' ⟨rfl, rfl⟩
  go_wp2_with fail
  refine (takes_any 1 _ true h.out.2.2.1 _).mono ?_
  rintro e w' ⟨rfl, rfl⟩
  go_wp2_with fail
  refine (takes_any 3 _ true h.out.2.2.2.1 _).mono ?_
  rintro e w' ⟨rfl, rfl⟩
  go_wp2_with fail
  refine (takes_any 2 _ false h.out.2.2.2.2 _).mono ?_
  rintro e w' ⟨rfl, rfl⟩
  go_wp2
  go_ret
  exact ⟨rfl, rfl⟩

open Own in
theorem walk_un (a0 : Int) (w : World) (ho : Hid (ordB a0 = false)) (b : Bool) (hb : Hid (takesB 4 a0 = b)) :
    Calls Trym.prog 3 #[.int .i64 a0] w fun e w' => e = .returned (.bool true) ∧ w' = w := by
  have h : Hid (takesB 0 a0 = b ∧ takesB 1 a0 = b ∧ takesB 3 a0 = b) := by
    have := takes_bool_un ho.out
    rw [hb.out] at this
    exact this
  cases b
  · go_enter Trym.func3, Trym.ntmps3
    go_wp2_with fail
    refine (zzOrdered_any _ false ho _).mono ?_
    rintro e w' ⟨rfl, rfl⟩
    go_wp2_with fail
    refine (takes_any 4 _ false hb.out _).mono ?_
    rintro e w' ⟨rfl, rfl⟩
    go_wp2_with fail
    refine (takes_any 0 _ false h.out.1 _).mono ?_
    rintro e w' ⟨rfl, rfl⟩
    go_wp2_with fail
    refine (takes_any 1 _ false h.out.2.1 _).mono ?_
    rintro e w' ⟨rfl, rfl⟩
    go_wp2_with fail
    refine (takes_any 3 _ false h.out.2.2 _).mono ?_
    rintro e w' ⟨rfl, rfl⟩
    go_wp2
    go_ret
    exact ⟨rfl, rfl⟩
  · go_enter Trym.func3, Trym.ntmps3
    go_wp2_with fail
    refine (zzOrdered_any _ false ho _).mono ?_
    rintro e w' ⟨rfl, rfl⟩
    go_wp2_with fail
    refine (takes_any 4 _ true hb.out _).mono ?_
    rintro e w' ⟨rfl, rfl⟩
    go_wp2_with fail
    refine (takes_any 0 _ true h.out.1 _).mono ?_
    rintro e w' ⟨rfl, rfl⟩
    go_wp2_with fail
    refine (takes_any 1 _ true h.out.2.1 _).mono ?_
    rintro e w' ⟨rfl, rfl⟩
    go_wp2_with fail
    refine (takes_any 3 _ true h.out.2.2 _).mono ?_
    rintro e w' ⟨rfl, rfl⟩
    go_wp2
    go_ret
    exact ⟨rfl, rfl⟩

/-! ### STEP 1: THE WALK: the Go text returns true and writes nothing that was there. -/
theorem walk (a0 : Int) (w0 : (Lit.int .i64 a0).wf = true) (w : World) :
    Calls Trym.prog 3 #[.int .i64 a0] w fun e w' => e = .returned (.bool true) ∧ Grown w w' := by
  cases ho : Own.ordB a0 with
  | true => exact (walk_ord a0 w ho).mono fun e w' ⟨he, hw⟩ => ⟨he, hw ▸ Grown.refl _⟩
  | false => exact (walk_un a0 w ho _ rfl).mono fun e w' ⟨he, hw⟩ => ⟨he, hw ▸ Grown.refl _⟩

/-! ### THE ROW's STEP: WRITTEN OUT: LEAVE IT -/
set_option maxRecDepth 100000 in
theorem lifted (os : Os) (started : os.Started) (H : Type) (enc : TypeId × Value → H) :
    ReturnsInHanded {} Trym.checked os 3 .any (Rows.fnOpOrderedIsWhatNumbersTakeAndBooleansRefuseSpec.pre6 enc Trym.prog Trym.f3 Rows.fnOpOrderedIsWhatNumbersTakeAndBooleansRefuseRow.domain false) (Rows.fnOpOrderedIsWhatNumbersTakeAndBooleansRefuseSpec.post enc Trym.prog Trym.f3 false true false false) := by
  refine returnsInHanded_of_change (C := Trym.checked) own started (by kernel_rfl) Trym.func3
    (ChangeSpec.witness6 (enc := enc) (C := Trym.checked) false ⟨#[], #[.int .i64 0], []⟩ 8 (by kernel_rfl) (by kernel_rfl) (by kernel_rfl) (by kernel_rfl)) ?_
  intro W base args ds gs before hval0 hW hcnd _
  have hval : ∀ (j : Nat) t v, Trym.f3.params[j]? = some t → args[j]? = some v → Value.okWide Trym.prog W .any base t v := hval0
  have hW' := hW
  obtain ⟨p, q, hA0, hV, rfl, hfz, hnd⟩ := hW
  have hA : DataW.TrodAll enc Trym.prog W 0 (fun _ => true) true Trym.f3.params.toList args.toList ds p := hA0
  rw [Trym.params3] at hA hval
  obtain ⟨v0, vs0, d0, ds0, p0, q0, hargs, rfl, rfl, h0, r0⟩ := trodAll_cons hA
  obtain ⟨rfl, rfl, rfl⟩ := trodAll_nil r0
  obtain rfl : args = #[v0] := by cases args; simp_all
  obtain ⟨rfl, rfl⟩ := trodVars_none hV
  obtain ⟨a0, rfl, rfl, rfl, w0⟩ := open_int Trym.underlying3 (hval 0 3 v0 rfl rfl) h0
  clear hA0 hval0
  simp only [List.append_nil] at hW'
  refine (walk a0 w0 W).mono fun e W' ⟨he, hg⟩ => ?_
  subst he
  exact ⟨_, rfl, post_of_same (pa := []) (pv := []) hW' (fun _ _ _ => (trodAll_cons_mk (shut_bool Trym.underlying4 _) trodAll_mk0)) (fun sp _ => (trodAll_cons_mk (shut_int Trym.underlying3 w0) trodAll_mk0)) (fun _ _ => rfl) rfl
    (hg.frame _) hg.2.1 (ok_one (by kernel_rfl) rfl (okWide_bool_mk Trym.underlying4 _))⟩

theorem closed : joinedFacts Trym.prog 3 Trym.f3 Rows.fnOpOrderedIsWhatNumbersTakeAndBooleansRefuseSpec Rows.fnOpOrderedIsWhatNumbersTakeAndBooleansRefuseRow = true := by
  unfold joinedFacts
  simp only [Bool.and_eq_true]
  exact ⟨⟨⟨⟨⟨⟨⟨⟨⟨⟨⟨⟨⟨⟨⟨⟨⟨⟨⟨⟨⟨⟨⟨⟨⟨⟨⟨⟨⟨⟨⟨by kernel_rfl, by kernel_rfl⟩, by kernel_rfl⟩, by kernel_rfl⟩, by kernel_rfl⟩, by kernel_rfl⟩, by kernel_rfl⟩, by kernel_rfl⟩, by kernel_rfl⟩, by kernel_rfl⟩, by kernel_rfl⟩, by kernel_rfl⟩, by kernel_rfl⟩, by kernel_rfl⟩, by kernel_rfl⟩, by kernel_rfl⟩, by kernel_rfl⟩, by kernel_rfl⟩, by kernel_rfl⟩, by kernel_rfl⟩, by kernel_rfl⟩, by kernel_rfl⟩, by kernel_rfl⟩, by kernel_rfl⟩, by kernel_rfl⟩, Own.mayEnter⟩, by rw [Own.liftsFinal]; kernel_rfl⟩, by rw [Own.made]; kernel_rfl⟩, by kernel_rfl⟩, by kernel_rfl⟩, by kernel_rfl⟩, by kernel_rfl⟩

theorem over : Rows.fnOpOrderedIsWhatNumbersTakeAndBooleansRefuseRow.holds Trym.pinned (OpenSpec.ofChange Rows.fnOpOrderedIsWhatNumbersTakeAndBooleansRefuseSpec) :=
  OpenClaim.holds_of_wide 3 Trym.f3 rfl rfl rfl rfl rfl rfl rfl ⟨rfl, rfl, rfl, rfl, rfl⟩ rfl rfl rfl rfl rfl (by kernel_rfl) Trym.func3 closed
    (of_decide_eq_true (by kernel_rfl)) (by unfold Func.isWrapper; first | (rw [if_pos (by decide +kernel)]; kernel_rfl) | (rw [if_neg (by decide +kernel)]; exact ⟨rfl, rfl⟩))
    (fun os started H enc _ => lifted os started H enc)

/-- ████ THE STATEMENT ████ -/
theorem proved : Rows.FnOpOrderedIsWhatNumbersTakeAndBooleansRefuseSaid :=
  over
end Go.Proofs.Qxb6001833aMods.fnOpOrderedIsWhatNumbersTakeAndBooleansRefuse
